import JvmDerived
import JvmDerived.Pilot.@@N@@Statement
import JvmDerived.Pilot.@@N@@Code
set_option linter.unusedVariables false
set_option linter.unusedSimpArgs false
namespace Jvm.RoadKit
open Sem ClassFile Op Lib Jvm.Stand Jvm.Free Jvm.LawKit
section New
variable {p : Program} {l : Launch} {e : Env} {R : Room} {s : State} {m : MethodId} {args : Array Value} {below : List Frame} {meth : Method} {c : Code} {T : State} {locs : List Loc} {cells slots : Nat}
theorem retI (X : Stand p l e R s m args below meth c T locs cells slots) (hx : p.tables.exec = Jvm.exec) {pc : Nat} {Ls : Array Slot} {z : Int32} {rest : List Value} (hret : meth.sig.returnType = some .int) (hd : decode c.code pc = .ok (.ireturn, 1)) {fs : List Frame}
    (hl : ∀ (f : JFrame) (acts : List Action), f.method = m → f.locked = none → f.entered = [] → (doReturn e (T.setTop f) acts (some (.int z))).1 = T.setFrames fs) : Steps p.tables e below (T.setTop (mkF m pc Ls (.int z :: rest))) (T.setFrames fs) := by
  have hm' : T.vm.method? m = some meth := X.method'
  have hn : narrow .int (.int z) = .int z := rfl
  show Steps p.tables e below (T.setTop { method := m, pc := pc, locals := Ls, stack := _ :: rest, locked := none }) _
  jvm_step X.here [X.here.top, hx, hd, hm', hret, hn]
  first | (intro acts; rw [hl _ acts rfl rfl rfl]) | rw [hl _ _ rfl rfl rfl]
  exact Steps.refl _
end New
end Jvm.RoadKit
namespace Jvm.Pilot.@@N@@
open Jvm Jvm.ClassFile Sem Op Lib Jvm.Free Jvm.Stand Jvm.LawKit Jvm.RoadKit Bundle Jvm.Pilot.@@N@@.Jvm.D
def Av (Z : State) (h : Heap) (a : Addr) (ty : FieldType) (n : Int32) (vs : List Value) (d : Value) : Prop := ∃ k, Arv Z h a k ty n vs d
theorem Av.lt {Z : State} {h : Heap} {a : Addr} {ty : FieldType} {n : Int32} {vs : List Value} {d : Value} (F : Av Z h a ty n vs d) : a < h.size := by obtain ⟨k, F⟩ := F; exact F.lt
theorem Av.ext {Z : State} {h h' : Heap} {a : Addr} {ty : FieldType} {n : Int32} {vs : List Value} {d : Value} (F : Av Z h a ty n vs d) (E : Ext h h') : Av Z h' a ty n vs d := by obtain ⟨k, F⟩ := F; exact ⟨k, F.ext E⟩
theorem Av.other {Z : State} {h h' : Heap} {a b : Addr} {ty : FieldType} {n : Int32} {vs : List Value} {d : Value} {sl : Nat} {v : Value} (F : Av Z h b ty n vs d) (W : Wr h h' a sl v) (q : b ≠ a) : Av Z h' b ty n vs d := by obtain ⟨k, F⟩ := F; exact ⟨k, F.other W q⟩
def Al (Z : State) (h : Heap) (a : Addr) (ty : FieldType) (n : Int32) : Prop := ∃ c : Cell, Arr Z h a c ty ∧ c.slots.size = n.toNatClampNeg ∧ ¬ n < 0
theorem Al.lt {Z : State} {h : Heap} {a : Addr} {ty : FieldType} {n : Int32} (F : Al Z h a ty n) : a < h.size := by obtain ⟨c, A, -⟩ := F; exact A.lt
theorem Al.ext {Z : State} {h h' : Heap} {a : Addr} {ty : FieldType} {n : Int32} (F : Al Z h a ty n) (E : Ext h h') : Al Z h' a ty n := by obtain ⟨c, A, r⟩ := F; exact ⟨c, A.ext E, r⟩
theorem Al.other {Z : State} {h h' : Heap} {a b : Addr} {ty : FieldType} {n : Int32} {sl : Nat} {v : Value} (F : Al Z h b ty n) (W : Wr h h' a sl v) (q : b ≠ a) : Al Z h' b ty n := by obtain ⟨c, A, r⟩ := F; exact ⟨c, A.other W q, r⟩
theorem Al.same {Z : State} {h h' : Heap} {a : Addr} {ty : FieldType} {n : Int32} {sl : Nat} {v : Value} (F : Al Z h a ty n) (W : Wr h h' a sl v) : Al Z h' a ty n := by obtain ⟨c, A, r⟩ := F; exact ⟨_, A.same W, by rw [sz_set]; exact r.1, r.2⟩
theorem Al.keep {Z : State} {h h' : Heap} {a : Addr} {ty : FieldType} {n : Int32} {ws : List Addr} (F : Al Z h a ty n) (K : Keep h h' ws) (q : a ∉ ws) : Al Z h' a ty n := by obtain ⟨c, A, r⟩ := F; exact ⟨c, ⟨K.2.1 a c A.1 q, A.2⟩, r⟩
theorem Av.al {Z : State} {h : Heap} {a : Addr} {ty : FieldType} {n : Int32} {vs : List Value} {d : Value} (F : Av Z h a ty n vs d) : Al Z h a ty n := by obtain ⟨k, c, A, -, r1, r2, -⟩ := F; exact ⟨c, A, r1, r2⟩
theorem Av.keep {Z : State} {h h' : Heap} {a : Addr} {ty : FieldType} {n : Int32} {vs : List Value} {d : Value} {ws : List Addr} (F : Av Z h a ty n vs d) (K : Keep h h' ws) (q : a ∉ ws) : Av Z h' a ty n vs d := by obtain ⟨k, F⟩ := F; exact ⟨k, F.keep K q⟩
abbrev MN1 : MethodName := ⟨"com/example/dido/dido/keys/KeyWriter", "<init>", "(J)V"⟩
abbrev MN3 : MethodName := ⟨"java/lang/Math", "min", "(JJ)J"⟩
abbrev MN4 : MethodName := ⟨"com/example/dido/dido/keys/KeyWriter", "write", "(I)V"⟩
abbrev MN5 : MethodName := ⟨"com/example/dido/dido/keys/KeyWriter", "ensureRoom", "(I)V"⟩
abbrev MN6 : MethodName := ⟨"java/lang/Math", "max", "(II)I"⟩
abbrev MN7 : MethodName := ⟨"java/util/Arrays", "copyOf", "([BI)[B"⟩
abbrev MN8 : MethodName := ⟨"java/lang/Math", "min", "(II)I"⟩
abbrev MN9 : MethodName := ⟨"com/example/dido/dido/keys/KeyWriter", "invert", "(I)V"⟩
abbrev MN10 : MethodName := ⟨"com/example/dido/dido/keys/KeyWriter", "toByteArray", "()[B"⟩
abbrev MN11 : MethodName := ⟨"com/example/dido/dido/keys/KeyWriterInvertPinLaw", "ok", "([BIII)Z"⟩
def Px (Z : State) (h : Heap) (a : Addr) (ty : FieldType) (n : Int32) (vs : List Value) : Prop := ∃ rs : List Value, Av Z h a ty n (vs ++ rs) (.int (0 : Int32))
theorem Px.lt {Z : State} {h : Heap} {a : Addr} {ty : FieldType} {n : Int32} {vs : List Value} (F : Px Z h a ty n vs) : a < h.size := by obtain ⟨r, F⟩ := F; exact F.lt
theorem Px.ext {Z : State} {h h' : Heap} {a : Addr} {ty : FieldType} {n : Int32} {vs : List Value} (F : Px Z h a ty n vs) (E : Ext h h') : Px Z h' a ty n vs := by obtain ⟨r, F⟩ := F; exact ⟨r, F.ext E⟩
theorem Px.other {Z : State} {h h' : Heap} {a b : Addr} {ty : FieldType} {n : Int32} {vs : List Value} {sl : Nat} {v : Value} (F : Px Z h b ty n vs) (W : Wr h h' a sl v) (q : b ≠ a) : Px Z h' b ty n vs := by obtain ⟨r, F⟩ := F; exact ⟨r, F.other W q⟩
theorem Px.keep {Z : State} {h h' : Heap} {a : Addr} {ty : FieldType} {n : Int32} {vs : List Value} {ws : List Addr} (F : Px Z h a ty n vs) (K : Keep h h' ws) (q : a ∉ ws) : Px Z h' a ty n vs := by obtain ⟨r, F⟩ := F; exact ⟨r, F.keep K q⟩
theorem Av.px {Z : State} {h : Heap} {a : Addr} {ty : FieldType} {n : Int32} {ws vs rs : List Value} (F : Av Z h a ty n ws (.int (0 : Int32))) (e : ws = vs ++ rs) : Px Z h a ty n vs := ⟨rs, e ▸ F⟩
theorem Px.av {Z : State} {h : Heap} {a : Addr} {ty : FieldType} {n : Int32} {vs : List Value} (F : Px Z h a ty n vs) (e : n.toNatClampNeg = vs.length) : Av Z h a ty n vs (.int (0 : Int32)) := by
  obtain ⟨r, k, c, A, q1, S, q3, H, G⟩ := F
  have key : ∀ i, i < c.slots.size → (vs ++ r).getD i (.int (0 : Int32)) = vs.getD i (.int (0 : Int32)) := fun i hi => by
    have hi' : i < vs.length := by rw [S, e] at hi; exact hi
    simp [List.getElem?_append_left hi']
  exact ⟨k, c, A, q1, S, q3, fun i hi => by rw [← key i hi]; exact H i hi, fun i hi => by rw [← key i hi]; exact G i hi⟩
theorem Px.push {Z : State} {h h' : Heap} {a : Addr} {k : ClassId} {ty : FieldType} {n j : Int32} {vs r : List Value} {c : Cell} {v : Value} (A : Arr Z h a c ty) (q1 : c.cls = k) (S : c.slots.size = n.toNatClampNeg) (q3 : ¬ n < 0) (H : Has c (vs ++ r) (.int (0 : Int32))) (G : ∀ i, i < c.slots.size → fits ty ((vs ++ r).getD i (.int (0 : Int32))) = true) (hv : fits ty v = true) (W : Wr h h' a j.toNatClampNeg v) (e : j.toNatClampNeg = vs.length) : Px Z h' a ty n (vs ++ [v]) := by
  have F : Arv Z h a k ty n (vs ++ (r ++ [.int (0 : Int32)])) (.int (0 : Int32)) := by
    rw [← List.append_assoc]
    exact Arv.pad (vs := vs ++ r) ⟨c, A, q1, S, q3, H, G⟩ (pad_rep (vs ++ r) (.int (0 : Int32)) 1)
  obtain ⟨y, ys, hy⟩ : ∃ y ys, r ++ [(Value.int (0 : Int32))] = y :: ys := by cases r <;> exact ⟨_, _, rfl⟩
  rw [hy] at F
  obtain ⟨c2, A2, q12, S2, q32, H2, G2⟩ := F
  have R := Arv.set A2 q12 S2 q32 H2 G2 hv W vs.length e (by simp)
  refine ⟨ys, k, ?_⟩
  have hs : (vs ++ y :: ys).set vs.length v = vs ++ [v] ++ ys := by simp
  rw [hs] at R
  exact R
theorem own_mod (x y : Int32) (hy : 0 < y.toInt) : 0 ≤ ((x &&& 2147483647) % y).toInt ∧ ((x &&& 2147483647) % y).toInt < y.toInt := by
  have h0 := c_mask x 2147483647 31 (by decide) (by decide)
  have h := (c_iremV (x &&& 2147483647) y).1 (by omega) hy
  exact ⟨h.1, h.2.1⟩
theorem own_cp (x : Int32) : 0 ≤ (x &&& (7 : Int32)).toInt ∧ (x &&& (7 : Int32)).toInt < 8 := by
  have h0 := c_mask x 7 3 (by decide) (by decide)
  omega
theorem own_min (x : Int32) (h : 0 ≤ x.toInt ∧ x.toInt < 8) : ¬ ((0 : Int32) < (lcmpW (x.toInt64) (2147483639 : Int64))) := by
  rw [lw_gt, Int64.lt_iff_toInt_lt, c_i2l]
  simp only [Int64.reduceToInt]
  omega
theorem own_li (x : Int32) : (x.toInt64).toInt32 = x := by
  apply Int32.toInt_inj.mp
  have q := c_l2i (x.toInt64)
  have q1 := rng32 (x.toInt64.toInt32)
  have q2 := rng32 x
  rw [c_i2l] at q
  omega
theorem own_nn (x : Int32) (h : 0 ≤ x.toInt) : ¬ x < 0 := by rw [Int32.lt_iff_toInt_lt]; simp only [Int32.reduceToInt]; omega
theorem own_cap (n : Int32) (h : 0 ≤ n.toInt ∧ n.toInt < 8) : n.toNatClampNeg ≤ 7 := by
  show n.toInt.toNat ≤ 7
  omega
theorem own_grow (ln s : Int32) (h1 : s.toInt ≤ ln.toInt) (h2 : 0 ≤ s.toInt ∧ ln.toInt < 9) (h : (ln - s) < (1 : Int32)) : ln = s := by
  have q := c_isub ln s
  have q1 := rng32 (ln - s)
  rw [Int32.lt_iff_toInt_lt] at h
  rw [← Int32.toInt_inj]
  simp only [Int32.reduceToInt] at *
  omega
theorem own_room (ln s : Int32) (h1 : s.toInt ≤ ln.toInt) (h2 : 0 ≤ s.toInt ∧ ln.toInt < 9) (h : ¬ ((ln - s) < (1 : Int32))) : s.toInt < ln.toInt := by
  have q := c_isub ln s
  have q1 := rng32 (ln - s)
  rw [Int32.lt_iff_toInt_lt] at h
  simp only [Int32.reduceToInt] at *
  omega
theorem own_idx (k s ln : Int32) (h : s.toInt ≤ ln.toInt) (hk : ¬ k < 0) (hs : k.toInt < s.toInt) : ¬ k < 0 ∧ k < ln := ⟨hk, by rw [Int32.lt_iff_toInt_lt]; omega⟩
theorem own_h4 (s ln : Int32) (h : s.toInt ≤ ln.toInt) (hs : 0 ≤ s.toInt) : (0 : Int32).toNatClampNeg + s.toNatClampNeg ≤ ln.toNatClampNeg := by
  show (0 : Int).toNat + s.toInt.toNat ≤ ln.toInt.toNat
  omega
theorem own_lt (s ln : Int32) (h : s.toInt ≤ ln.toInt) (hn : ¬ s = ln) : s < ln := by
  rw [Int32.lt_iff_toInt_lt]
  rw [← Int32.toInt_inj] at hn
  omega
theorem own_nb (v : Int32) : nar .byte (v.toInt8.toInt32) = v.toInt8.toInt32 := by
  show (v.toInt8.toInt32).toInt8.toInt32 = v.toInt8.toInt32
  apply Int32.toInt_inj.mp
  have q1 := c_i2b v
  have q2 := c_i2b (v.toInt8.toInt32)
  omega
theorem own_k1 (v : Int32) : ((nar .byte (v.toInt8.toInt32)) &&& (255 : Int32)) = (v &&& (255 : Int32)) := by
  rw [own_nb]
  apply Int32.toInt_inj.mp
  rw [c_mask _ 255 8 (by decide) (by decide), c_mask _ 255 8 (by decide) (by decide)]
  have q1 := c_i2b v
  omega
theorem own_not (x : Int32) : (x ^^^ (-1 : Int32)).toInt = -x.toInt - 1 := by
  have e : (x ^^^ (-1 : Int32)).toBitVec = ~~~ x.toBitVec := by
    show x.toBitVec ^^^ (-1 : Int32).toBitVec = _
    rw [show (-1 : Int32).toBitVec = BitVec.allOnes 32 from by decide]
    apply BitVec.eq_of_getLsbD_eq
    intro i hi
    rw [BitVec.getLsbD_xor, BitVec.getLsbD_not, BitVec.getLsbD_allOnes]
    cases x.toBitVec.getLsbD i <;> simp [hi]
  show (x ^^^ (-1 : Int32)).toBitVec.toInt = _
  rw [e, BitVec.toInt_not]
  have h := x.toBitVec.isLt
  show ((2 : Int) ^ 32 - 1 - (x.toBitVec.toNat : Int)).bmod (2 ^ 32) = - x.toBitVec.toInt - 1
  have h1 := BitVec.toInt_eq_toNat_bmod x.toBitVec
  rw [h1]
  have h2 := bm32 ((2 : Int) ^ 32 - 1 - (x.toBitVec.toNat : Int))
  have h3 := bm32 (x.toBitVec.toNat : Int)
  have h4 := Int.bmod_lt (x := (2 : Int) ^ 32 - 1 - (x.toBitVec.toNat : Int)) (m := 2 ^ 32) (by decide)
  have h5 := Int.le_bmod (x := (2 : Int) ^ 32 - 1 - (x.toBitVec.toNat : Int)) (m := 2 ^ 32) (by decide)
  have h6 := Int.bmod_lt (x := (x.toBitVec.toNat : Int)) (m := 2 ^ 32) (by decide)
  have h7 := Int.le_bmod (x := (x.toBitVec.toNat : Int)) (m := 2 ^ 32) (by decide)
  omega
theorem own_k2 (v : Int32) : ((nar .byte (((nar .byte (v.toInt8.toInt32)) ^^^ (-1 : Int32)).toInt8.toInt32)) &&& (255 : Int32)) = ((255 : Int32) - (v &&& (255 : Int32))) := by
  rw [own_nb, own_nb]
  apply Int32.toInt_inj.mp
  have e := c_mask v 255 8 (by decide) (by decide)
  have e1 := c_isub 255 (v &&& 255)
  have e2 := rng32 (255 - (v &&& 255))
  rw [c_mask _ 255 8 (by decide) (by decide)]
  have q1 := c_i2b v
  have q2 := c_i2b ((v.toInt8.toInt32) ^^^ (-1 : Int32))
  have q3 := own_not (v.toInt8.toInt32)
  simp only [Int32.reduceToInt] at *
  omega
theorem own_lt1 (i : Int32) (h : 0 ≤ i.toInt ∧ i.toInt < 1) : i = (0 : Int32) := by
  simp only [← Int32.toInt_inj, Int32.reduceToInt] at *
  omega
theorem own_lt2 (i : Int32) (h : 0 ≤ i.toInt ∧ i.toInt < 2) : i = (0 : Int32) ∨ i = (1 : Int32) := by
  simp only [← Int32.toInt_inj, Int32.reduceToInt] at *
  omega
theorem own_lt3 (i : Int32) (h : 0 ≤ i.toInt ∧ i.toInt < 3) : i = (0 : Int32) ∨ i = (1 : Int32) ∨ i = (2 : Int32) := by
  simp only [← Int32.toInt_inj, Int32.reduceToInt] at *
  omega
theorem own_lt4 (i : Int32) (h : 0 ≤ i.toInt ∧ i.toInt < 4) : i = (0 : Int32) ∨ i = (1 : Int32) ∨ i = (2 : Int32) ∨ i = (3 : Int32) := by
  simp only [← Int32.toInt_inj, Int32.reduceToInt] at *
  omega
theorem own_lt5 (i : Int32) (h : 0 ≤ i.toInt ∧ i.toInt < 5) : i = (0 : Int32) ∨ i = (1 : Int32) ∨ i = (2 : Int32) ∨ i = (3 : Int32) ∨ i = (4 : Int32) := by
  simp only [← Int32.toInt_inj, Int32.reduceToInt] at *
  omega
theorem d3_0 : decode jdk_29_method_70_code 0 = .ok (.lload_n 0, 1) := by decide +kernel
theorem d3_1 : decode jdk_29_method_70_code 1 = .ok (.lload_n 2, 1) := by decide +kernel
theorem d3_2 : decode jdk_29_method_70_code 2 = .ok (.lcmp, 1) := by decide +kernel
theorem d3_3 : decode jdk_29_method_70_code 3 = .ok (.ifCond .gt 7, 3) := by decide +kernel
theorem d3_10 : decode jdk_29_method_70_code 10 = .ok (.lload_n 2, 1) := by decide +kernel
theorem d3_11 : decode jdk_29_method_70_code 11 = .ok (.lreturn, 1) := by decide +kernel
theorem d3_6 : decode jdk_29_method_70_code 6 = .ok (.lload_n 0, 1) := by decide +kernel
theorem d3_7 : decode jdk_29_method_70_code 7 = .ok (.goto 4, 3) := by decide +kernel
theorem ef_rm3 (m : MethodId) (x0 : Int64) (x1 : Int64) : entryFrame m #[(.long x0), (.long x1)] 4 = mkF m 0 #[.val (.long x0), .second, .val (.long x1), .second] [] := by first | (simp [entryFrame, mkF, argsToLocals, Value.category]; done) | rfl
def Q_rm3 (Z : State) (q3_0 : Int64) (q3_1 : Int64) (h0 : Heap) (n0 : Nat) (v : Option Value) (h : Heap) (L : List Loc) : Prop := v = some (.long (if (0 : Int32) < (lcmpW q3_0 q3_1) then q3_1 else q3_0)) ∧ Fr n0 L ∧ h = h0
set_option maxRecDepth 65536 in
set_option maxHeartbeats 40000000 in
theorem rm3 (l : Launch) (Z : State) (a0 : Array Value) (hw : ∀ d ∈ tables_1, d.before a0 Z = true) (ws : List Jvm.Cond) (q3_0 : Int64) (q3_1 : Int64) (h0 : Heap) (n0 : Nat) (Z0 : n0 ≤ h0.size) :
    MetFree l (⟨"java/lang/Math", "min", "(JJ)J"⟩ : MethodName) (head1 (Jvm.Cond.code (⟨"java/lang/Math", "min", "(JJ)J"⟩ : MethodName) jdk_29_method_70_code 4 (some .long) :: ws) ({ frames := 0, cells := 0, slots := 0, locals := 0 } : Room)) (fun a U => a = #[(.long q3_0), (.long q3_1)] ∧ Z.Warmed39 U.vm ∧ U.heap = h0) (fun _ _ _ _ _ => True) (fun _ U o U' => ∃ v L, o = .returned v ∧ Q_rm3 Z q3_0 q3_1 h0 n0 v U'.heap L ∧ FrameEnd U o U' L ({ frames := 0, cells := 0, slots := 0, locals := 0 } : Room).cells ({ frames := 0, cells := 0, slots := 0, locals := 0 } : Room).slots) := by
  refine MetFree.of_bodySF (Jvm.Free.JP.mathPlain rfl (by decide +kernel)) hisR ?_
  intro p e s m args below meth c s₁ Bd hml0 hP hK
  obtain ⟨rfl, hZ, hh⟩ := hP
  have hx := Bd.exec
  have hby := Bd.bytes
  have hml : c.maxLocals = 4 := hml0
  have hown : s.vm.findClass "java/lang/Math" = some m.cls := findClass_of_methodNamed Bd.named
  have hnm := (name_of_methodNamed Bd.named Bd.method).1
  have X0 : Stand p l e ({ frames := 0, cells := 0, slots := 0, locals := 0 } : Room) s m #[(.long q3_0), (.long q3_1)] below meth c s₁ [] 0 0 := Stand.of_body Bd
  have e0 : s₁.heap = h0 := by rw [← hh, Bd.state]; rfl
  have N0 := Fr.nil n0
  have pre0 : ∀ t, Steps p.tables e below (s₁.setTop (mkF m 0 #[.val (.long q3_0), .second, .val (.long q3_1), .second] [])) t → Steps p.tables e below (s₁.setTop (entryFrame m #[(.long q3_0), (.long q3_1)] 4)) t := fun t k => castTop (ef_rm3 m q3_0 q3_1) k
  have pre2 : ∀ t, Steps p.tables e below (s₁.setTop (mkF m 3 #[.val (.long q3_0), .second, .val (.long q3_1), .second] [(.int (lcmpW q3_0 q3_1))])) t → Steps p.tables e below (s₁.setTop (entryFrame m #[(.long q3_0), (.long q3_1)] 4)) t := by
    intro t_ k_
    refine pre0 _ ?_
    show Steps p.tables e below (s₁.setTop (mkF m 0 #[.val (.long q3_0), .second, .val (.long q3_1), .second] [])) _
    refine XS.lloadN X0.here hx rfl (hb hby d3_0) rfl ?_
    refine XS.lloadN X0.here hx rfl (hb hby d3_1) rfl ?_
    refine XS.lcmp X0.here hx rfl (hb hby d3_2) rfl ?_
    exact k_
  by_cases hc3_1 : (0 : Int32) < (lcmpW q3_0 q3_1)
  · skip
    obtain ⟨fs, hr, hrun, hended, hW, hsame⟩ := X0.leave (v := some (.long q3_1)) (fun h => by rw [Bd.returns] at h; cases h)
    refine ⟨_, _, pre2 _ ?_, hrun, hended, _, _, rfl, ?_, ⟨_, rfl⟩, hW, hsame.mono (by decide) (by decide)⟩
    · show Steps p.tables e below (s₁.setTop (mkF m 3 #[.val (.long q3_0), .second, .val (.long q3_1), .second] [(.int (lcmpW q3_0 q3_1))])) _
      refine XS.ifYes X0.here hx rfl (pc0 := 3) (pc' := 10) rfl (hb hby d3_3) rfl ((if0 _ _).trans (tlt hc3_1).2.2.1) (by decide) (by decide) ?_
      refine XS.lloadN X0.here hx rfl (hb hby d3_10) rfl ?_
      show Steps p.tables e below (s₁.setTop (mkF m 11 #[.val (.long q3_0), .second, .val (.long q3_1), .second] [(.long q3_1)])) _
      exact retOut X0 hx Bd.returns rfl (Or.inr (Or.inl ⟨rfl, rfl, _, rfl⟩)) (hb hby d3_11) hr
    · show Q_rm3 Z _ _ h0 n0 _ s₁.heap _
      rw [e0]
      exact ⟨(by first | rfl | (simp [*]; done) | (simp_all; done)), N0, rfl⟩
  · skip
    obtain ⟨fs, hr, hrun, hended, hW, hsame⟩ := X0.leave (v := some (.long q3_0)) (fun h => by rw [Bd.returns] at h; cases h)
    refine ⟨_, _, pre2 _ ?_, hrun, hended, _, _, rfl, ?_, ⟨_, rfl⟩, hW, hsame.mono (by decide) (by decide)⟩
    · show Steps p.tables e below (s₁.setTop (mkF m 3 #[.val (.long q3_0), .second, .val (.long q3_1), .second] [(.int (lcmpW q3_0 q3_1))])) _
      refine XS.ifNo X0.here hx rfl (hb hby d3_3) rfl ((if0 _ _).trans (flt hc3_1).2.2.1) ?_
      refine XS.lloadN X0.here hx rfl (hb hby d3_6) rfl ?_
      refine XS.goto X0.here hx rfl (pc0 := 7) (pc' := 11) rfl (hb hby d3_7) (by decide) (by decide) ?_
      show Steps p.tables e below (s₁.setTop (mkF m 11 #[.val (.long q3_0), .second, .val (.long q3_1), .second] [(.long q3_0)])) _
      exact retOut X0 hx Bd.returns rfl (Or.inr (Or.inl ⟨rfl, rfl, _, rfl⟩)) (hb hby d3_11) hr
    · show Q_rm3 Z _ _ h0 n0 _ s₁.heap _
      rw [e0]
      exact ⟨(by first | rfl | (simp [*]; done) | (simp_all; done)), N0, rfl⟩
theorem d6_0 : decode jdk_29_method_65_code 0 = .ok (.iload_n 0, 1) := by decide +kernel
theorem d6_1 : decode jdk_29_method_65_code 1 = .ok (.iload_n 1, 1) := by decide +kernel
theorem d6_2 : decode jdk_29_method_65_code 2 = .ok (.if_icmp .lt 7, 3) := by decide +kernel
theorem d6_9 : decode jdk_29_method_65_code 9 = .ok (.iload_n 1, 1) := by decide +kernel
theorem d6_10 : decode jdk_29_method_65_code 10 = .ok (.ireturn, 1) := by decide +kernel
theorem d6_5 : decode jdk_29_method_65_code 5 = .ok (.iload_n 0, 1) := by decide +kernel
theorem d6_6 : decode jdk_29_method_65_code 6 = .ok (.goto 4, 3) := by decide +kernel
theorem ef_rm6 (m : MethodId) (x0 : Int32) (x1 : Int32) : entryFrame m #[(.int x0), (.int x1)] 2 = mkF m 0 #[iv x0, iv x1] [] := by first | (simp [entryFrame, mkF, argsToLocals, Value.category]; done) | rfl
def Q_rm6 (Z : State) (p6_0 : Int32) (p6_1 : Int32) (h0 : Heap) (n0 : Nat) (v : Option Value) (h : Heap) (L : List Loc) : Prop := v = some (.int (if p6_0 < p6_1 then p6_1 else p6_0)) ∧ Fr n0 L ∧ h = h0
set_option maxRecDepth 65536 in
set_option maxHeartbeats 40000000 in
theorem rm6 (l : Launch) (Z : State) (a0 : Array Value) (hw : ∀ d ∈ tables_1, d.before a0 Z = true) (ws : List Jvm.Cond) (p6_0 : Int32) (p6_1 : Int32) (h0 : Heap) (n0 : Nat) (Z0 : n0 ≤ h0.size) :
    MetFree l (⟨"java/lang/Math", "max", "(II)I"⟩ : MethodName) (head1 (Jvm.Cond.code (⟨"java/lang/Math", "max", "(II)I"⟩ : MethodName) jdk_29_method_65_code 2 (some .int) :: ws) ({ frames := 0, cells := 0, slots := 0, locals := 0 } : Room)) (fun a U => a = #[(.int p6_0), (.int p6_1)] ∧ Z.Warmed39 U.vm ∧ U.heap = h0) (fun _ _ _ _ _ => True) (fun _ U o U' => ∃ v L, o = .returned v ∧ Q_rm6 Z p6_0 p6_1 h0 n0 v U'.heap L ∧ FrameEnd U o U' L ({ frames := 0, cells := 0, slots := 0, locals := 0 } : Room).cells ({ frames := 0, cells := 0, slots := 0, locals := 0 } : Room).slots) := by
  refine MetFree.of_bodySF (Jvm.Free.JP.mathPlain rfl (by decide +kernel)) hisR ?_
  intro p e s m args below meth c s₁ Bd hml0 hP hK
  obtain ⟨rfl, hZ, hh⟩ := hP
  have hx := Bd.exec
  have hby := Bd.bytes
  have hml : c.maxLocals = 2 := hml0
  have hown : s.vm.findClass "java/lang/Math" = some m.cls := findClass_of_methodNamed Bd.named
  have hnm := (name_of_methodNamed Bd.named Bd.method).1
  have X0 : Stand p l e ({ frames := 0, cells := 0, slots := 0, locals := 0 } : Room) s m #[(.int p6_0), (.int p6_1)] below meth c s₁ [] 0 0 := Stand.of_body Bd
  have e0 : s₁.heap = h0 := by rw [← hh, Bd.state]; rfl
  have N0 := Fr.nil n0
  have pre0 : ∀ t, Steps p.tables e below (s₁.setTop (mkF m 0 #[iv p6_0, iv p6_1] [])) t → Steps p.tables e below (s₁.setTop (entryFrame m #[(.int p6_0), (.int p6_1)] 2)) t := fun t k => castTop (ef_rm6 m p6_0 p6_1) k
  have pre2 : ∀ t, Steps p.tables e below (s₁.setTop (mkF m 2 #[iv p6_0, iv p6_1] [(.int p6_1), (.int p6_0)])) t → Steps p.tables e below (s₁.setTop (entryFrame m #[(.int p6_0), (.int p6_1)] 2)) t := by
    intro t_ k_
    refine pre0 _ ?_
    show Steps p.tables e below (s₁.setTop (mkF m 0 #[iv p6_0, iv p6_1] [])) _
    refine XS.iloadN X0.here hx rfl (hb hby d6_0) rfl ?_
    refine XS.iloadN X0.here hx rfl (hb hby d6_1) rfl ?_
    exact k_
  by_cases hc2_1 : p6_0 < p6_1
  · skip
    obtain ⟨fs, hr, hrun, hended, hW, hsame⟩ := X0.leave (v := some (.int p6_1)) (fun h => by rw [Bd.returns] at h; cases h)
    refine ⟨_, _, pre2 _ ?_, hrun, hended, _, _, rfl, ?_, ⟨_, rfl⟩, hW, hsame.mono (by decide) (by decide)⟩
    · show Steps p.tables e below (s₁.setTop (mkF m 2 #[iv p6_0, iv p6_1] [(.int p6_1), (.int p6_0)])) _
      refine XS.icmpYes X0.here hx rfl (pc0 := 2) (pc' := 9) rfl (hb hby d6_2) rfl (tlt hc2_1).1 (by decide) (by decide) ?_
      refine XS.iloadN X0.here hx rfl (hb hby d6_9) rfl ?_
      show Steps p.tables e below (s₁.setTop (mkF m 10 #[iv p6_0, iv p6_1] [(.int p6_1)])) _
      exact retI X0 hx Bd.returns (hb hby d6_10) hr
    · show Q_rm6 Z _ _ h0 n0 _ s₁.heap _
      rw [e0]
      exact ⟨(by first | rfl | (simp [*]; done) | (simp_all; done)), N0, rfl⟩
  · skip
    obtain ⟨fs, hr, hrun, hended, hW, hsame⟩ := X0.leave (v := some (.int p6_0)) (fun h => by rw [Bd.returns] at h; cases h)
    refine ⟨_, _, pre2 _ ?_, hrun, hended, _, _, rfl, ?_, ⟨_, rfl⟩, hW, hsame.mono (by decide) (by decide)⟩
    · show Steps p.tables e below (s₁.setTop (mkF m 2 #[iv p6_0, iv p6_1] [(.int p6_1), (.int p6_0)])) _
      refine XS.icmpNo X0.here hx rfl (hb hby d6_2) rfl (flt hc2_1).1 ?_
      show Steps p.tables e below (s₁.setTop (mkF m 5 #[iv p6_0, iv p6_1] [])) _
      refine XS.iloadN X0.here hx rfl (hb hby d6_5) rfl ?_
      refine XS.goto X0.here hx rfl (pc0 := 6) (pc' := 10) rfl (hb hby d6_6) (by decide) (by decide) ?_
      show Steps p.tables e below (s₁.setTop (mkF m 10 #[iv p6_0, iv p6_1] [(.int p6_0)])) _
      exact retI X0 hx Bd.returns (hb hby d6_10) hr
    · show Q_rm6 Z _ _ h0 n0 _ s₁.heap _
      rw [e0]
      exact ⟨(by first | rfl | (simp [*]; done) | (simp_all; done)), N0, rfl⟩
theorem d8_0 : decode jdk_29_method_69_code 0 = .ok (.iload_n 0, 1) := by decide +kernel
theorem d8_1 : decode jdk_29_method_69_code 1 = .ok (.iload_n 1, 1) := by decide +kernel
theorem d8_2 : decode jdk_29_method_69_code 2 = .ok (.if_icmp .gt 7, 3) := by decide +kernel
theorem d8_9 : decode jdk_29_method_69_code 9 = .ok (.iload_n 1, 1) := by decide +kernel
theorem d8_10 : decode jdk_29_method_69_code 10 = .ok (.ireturn, 1) := by decide +kernel
theorem d8_5 : decode jdk_29_method_69_code 5 = .ok (.iload_n 0, 1) := by decide +kernel
theorem d8_6 : decode jdk_29_method_69_code 6 = .ok (.goto 4, 3) := by decide +kernel
theorem ef_rm8 (m : MethodId) (x0 : Int32) (x1 : Int32) : entryFrame m #[(.int x0), (.int x1)] 2 = mkF m 0 #[iv x0, iv x1] [] := by first | (simp [entryFrame, mkF, argsToLocals, Value.category]; done) | rfl
def Q_rm8 (Z : State) (p8_0 : Int32) (p8_1 : Int32) (h0 : Heap) (n0 : Nat) (v : Option Value) (h : Heap) (L : List Loc) : Prop := v = some (.int (if p8_1 < p8_0 then p8_1 else p8_0)) ∧ Fr n0 L ∧ h = h0
set_option maxRecDepth 65536 in
set_option maxHeartbeats 40000000 in
theorem rm8 (l : Launch) (Z : State) (a0 : Array Value) (hw : ∀ d ∈ tables_1, d.before a0 Z = true) (ws : List Jvm.Cond) (p8_0 : Int32) (p8_1 : Int32) (h0 : Heap) (n0 : Nat) (Z0 : n0 ≤ h0.size) :
    MetFree l (⟨"java/lang/Math", "min", "(II)I"⟩ : MethodName) (head1 (Jvm.Cond.code (⟨"java/lang/Math", "min", "(II)I"⟩ : MethodName) jdk_29_method_69_code 2 (some .int) :: ws) ({ frames := 0, cells := 0, slots := 0, locals := 0 } : Room)) (fun a U => a = #[(.int p8_0), (.int p8_1)] ∧ Z.Warmed39 U.vm ∧ U.heap = h0) (fun _ _ _ _ _ => True) (fun _ U o U' => ∃ v L, o = .returned v ∧ Q_rm8 Z p8_0 p8_1 h0 n0 v U'.heap L ∧ FrameEnd U o U' L ({ frames := 0, cells := 0, slots := 0, locals := 0 } : Room).cells ({ frames := 0, cells := 0, slots := 0, locals := 0 } : Room).slots) := by
  refine MetFree.of_bodySF (Jvm.Free.JP.mathPlain rfl (by decide +kernel)) hisR ?_
  intro p e s m args below meth c s₁ Bd hml0 hP hK
  obtain ⟨rfl, hZ, hh⟩ := hP
  have hx := Bd.exec
  have hby := Bd.bytes
  have hml : c.maxLocals = 2 := hml0
  have hown : s.vm.findClass "java/lang/Math" = some m.cls := findClass_of_methodNamed Bd.named
  have hnm := (name_of_methodNamed Bd.named Bd.method).1
  have X0 : Stand p l e ({ frames := 0, cells := 0, slots := 0, locals := 0 } : Room) s m #[(.int p8_0), (.int p8_1)] below meth c s₁ [] 0 0 := Stand.of_body Bd
  have e0 : s₁.heap = h0 := by rw [← hh, Bd.state]; rfl
  have N0 := Fr.nil n0
  have pre0 : ∀ t, Steps p.tables e below (s₁.setTop (mkF m 0 #[iv p8_0, iv p8_1] [])) t → Steps p.tables e below (s₁.setTop (entryFrame m #[(.int p8_0), (.int p8_1)] 2)) t := fun t k => castTop (ef_rm8 m p8_0 p8_1) k
  have pre2 : ∀ t, Steps p.tables e below (s₁.setTop (mkF m 2 #[iv p8_0, iv p8_1] [(.int p8_1), (.int p8_0)])) t → Steps p.tables e below (s₁.setTop (entryFrame m #[(.int p8_0), (.int p8_1)] 2)) t := by
    intro t_ k_
    refine pre0 _ ?_
    show Steps p.tables e below (s₁.setTop (mkF m 0 #[iv p8_0, iv p8_1] [])) _
    refine XS.iloadN X0.here hx rfl (hb hby d8_0) rfl ?_
    refine XS.iloadN X0.here hx rfl (hb hby d8_1) rfl ?_
    exact k_
  by_cases hc2_1 : p8_1 < p8_0
  · skip
    obtain ⟨fs, hr, hrun, hended, hW, hsame⟩ := X0.leave (v := some (.int p8_1)) (fun h => by rw [Bd.returns] at h; cases h)
    refine ⟨_, _, pre2 _ ?_, hrun, hended, _, _, rfl, ?_, ⟨_, rfl⟩, hW, hsame.mono (by decide) (by decide)⟩
    · show Steps p.tables e below (s₁.setTop (mkF m 2 #[iv p8_0, iv p8_1] [(.int p8_1), (.int p8_0)])) _
      refine XS.icmpYes X0.here hx rfl (pc0 := 2) (pc' := 9) rfl (hb hby d8_2) rfl (tlt hc2_1).2.2.1 (by decide) (by decide) ?_
      refine XS.iloadN X0.here hx rfl (hb hby d8_9) rfl ?_
      show Steps p.tables e below (s₁.setTop (mkF m 10 #[iv p8_0, iv p8_1] [(.int p8_1)])) _
      exact retI X0 hx Bd.returns (hb hby d8_10) hr
    · show Q_rm8 Z _ _ h0 n0 _ s₁.heap _
      rw [e0]
      exact ⟨(by first | rfl | (simp [*]; done) | (simp_all; done)), N0, rfl⟩
  · skip
    obtain ⟨fs, hr, hrun, hended, hW, hsame⟩ := X0.leave (v := some (.int p8_0)) (fun h => by rw [Bd.returns] at h; cases h)
    refine ⟨_, _, pre2 _ ?_, hrun, hended, _, _, rfl, ?_, ⟨_, rfl⟩, hW, hsame.mono (by decide) (by decide)⟩
    · show Steps p.tables e below (s₁.setTop (mkF m 2 #[iv p8_0, iv p8_1] [(.int p8_1), (.int p8_0)])) _
      refine XS.icmpNo X0.here hx rfl (hb hby d8_2) rfl (flt hc2_1).2.2.1 ?_
      show Steps p.tables e below (s₁.setTop (mkF m 5 #[iv p8_0, iv p8_1] [])) _
      refine XS.iloadN X0.here hx rfl (hb hby d8_5) rfl ?_
      refine XS.goto X0.here hx rfl (pc0 := 6) (pc' := 10) rfl (hb hby d8_6) (by decide) (by decide) ?_
      show Steps p.tables e below (s₁.setTop (mkF m 10 #[iv p8_0, iv p8_1] [(.int p8_0)])) _
      exact retI X0 hx Bd.returns (hb hby d8_10) hr
    · show Q_rm8 Z _ _ h0 n0 _ s₁.heap _
      rw [e0]
      exact ⟨(by first | rfl | (simp [*]; done) | (simp_all; done)), N0, rfl⟩
theorem d7_0 : decode jdk_65_method_121_code 0 = .ok (.iload_n 1, 1) := by decide +kernel
theorem d7_1 : decode jdk_65_method_121_code 1 = .ok (.aload_n 0, 1) := by decide +kernel
theorem d7_2 : decode jdk_65_method_121_code 2 = .ok (.arraylength, 1) := by decide +kernel
theorem d7_3 : decode jdk_65_method_121_code 3 = .ok (.if_icmp .ne 11, 3) := by decide +kernel
theorem d7_14 : decode jdk_65_method_121_code 14 = .ok (.iload_n 1, 1) := by decide +kernel
theorem d7_15 : decode jdk_65_method_121_code 15 = .ok (.newarray .byte, 2) := by decide +kernel
theorem d7_17 : decode jdk_65_method_121_code 17 = .ok (.astore_n 2, 1) := by decide +kernel
theorem d7_18 : decode jdk_65_method_121_code 18 = .ok (.aload_n 0, 1) := by decide +kernel
theorem d7_19 : decode jdk_65_method_121_code 19 = .ok (.iconst 0, 1) := by decide +kernel
theorem d7_20 : decode jdk_65_method_121_code 20 = .ok (.aload_n 2, 1) := by decide +kernel
theorem d7_21 : decode jdk_65_method_121_code 21 = .ok (.iconst 0, 1) := by decide +kernel
theorem d7_22 : decode jdk_65_method_121_code 22 = .ok (.aload_n 0, 1) := by decide +kernel
theorem d7_23 : decode jdk_65_method_121_code 23 = .ok (.arraylength, 1) := by decide +kernel
theorem d7_24 : decode jdk_65_method_121_code 24 = .ok (.iload_n 1, 1) := by decide +kernel
theorem pd_3 : parseMethodDescriptor "(II)I" = some ⟨[.int, .int], some .int⟩ := by decide +kernel
theorem d7_25 : decode jdk_65_method_121_code 25 = .ok (.invokestatic 304, 3) := by decide +kernel
theorem d7_28 : decode jdk_65_method_121_code 28 = .ok (.invokestatic 150, 3) := by decide +kernel
theorem d7_31 : decode jdk_65_method_121_code 31 = .ok (.aload_n 2, 1) := by decide +kernel
theorem d7_32 : decode jdk_65_method_121_code 32 = .ok (.areturn, 1) := by decide +kernel
theorem pn_java_util_Arrays : plainName "java/util/Arrays" = true := by first | (simp [plainName, overriddenIn]; done) | decide +kernel
theorem ef_rm_cg0 (m : MethodId) (x0 : Addr) (x1 : Int32) : entryFrame m #[(.ref x0), (.int x1)] 3 = mkF m 0 #[rv x0, iv x1, .unset] [] := by first | (simp [entryFrame, mkF, argsToLocals, Value.category]; done) | rfl
def Q_rm_cg0 (Z : State) (ar : Addr) (h0 : Heap) (n0 : Nat) (v : Option Value) (h : Heap) (L : List Loc) : Prop := ∃ (b : Addr), v = some (.ref b) ∧ Fr n0 L ∧ Keep h0 h [] ∧ (h0.size ≤ b) ∧ (Av Z h b .byte (1 : Int32) [(.int (0 : Int32))] (.int (0 : Int32)))
set_option maxRecDepth 65536 in
set_option maxHeartbeats 40000000 in
theorem rm_cg0 (l : Launch) (Z : State) (a0 : Array Value) (hw : ∀ d ∈ tables_1, d.before a0 Z = true) (ws : List Jvm.Cond) (ar : Addr) (h0 : Heap) (n0 : Nat) (Z0 : n0 ≤ h0.size) (pf_X_ar : Px Z h0 ar .byte (0 : Int32) []) :
    MetFree l (⟨"java/util/Arrays", "copyOf", "([BI)[B"⟩ : MethodName) (head1 (Jvm.Cond.code (⟨"java/util/Arrays", "copyOf", "([BI)[B"⟩ : MethodName) jdk_65_method_121_code 3 (some (.array .byte)) :: ws) ({ frames := 1, cells := 1, slots := 1, locals := 18 } : Room)) (fun a U => a = #[(.ref ar), (.int (1 : Int32))] ∧ Z.Warmed39 U.vm ∧ U.heap = h0) (fun _ _ _ _ _ => True) (fun _ U o U' => ∃ v L, o = .returned v ∧ Q_rm_cg0 Z ar h0 n0 v U'.heap L ∧ FrameEnd U o U' L ({ frames := 1, cells := 1, slots := 1, locals := 18 } : Room).cells ({ frames := 1, cells := 1, slots := 1, locals := 18 } : Room).slots) := by
  refine MetFree.of_bodySF (plainFor_of_name pn_java_util_Arrays) hisR ?_
  intro p e s m args below meth c s₁ Bd hml0 hP hK
  obtain ⟨rfl, hZ, hh⟩ := hP
  have hx := Bd.exec
  have hby := Bd.bytes
  have hml : c.maxLocals = 3 := hml0
  have hown : s.vm.findClass "java/util/Arrays" = some m.cls := findClass_of_methodNamed Bd.named
  have hnm := (name_of_methodNamed Bd.named Bd.method).1
  have X0 : Stand p l e ({ frames := 1, cells := 1, slots := 1, locals := 18 } : Room) s m #[(.ref ar), (.int (1 : Int32))] below meth c s₁ [] 0 0 := Stand.of_body Bd
  have e0 : s₁.heap = h0 := by rw [← hh, Bd.state]; rfl
  have N0 := Fr.nil n0
  have pre0 : ∀ t, Steps p.tables e below (s₁.setTop (mkF m 0 #[rv ar, iv (1 : Int32), .unset] [])) t → Steps p.tables e below (s₁.setTop (entryFrame m #[(.ref ar), (.int (1 : Int32))] 3)) t := fun t k => castTop (ef_rm_cg0 m ar (1 : Int32)) k
  have wo13 := hw _ (List.mem_of_getElem? (i := 13) rfl)
  have wo15 := hw _ (List.mem_of_getElem? (i := 15) rfl)
  have wo36 := hw _ (List.mem_of_getElem? (i := 36) rfl)
  have wo37 := hw _ (List.mem_of_getElem? (i := 37) rfl)
  have wo38 := hw _ (List.mem_of_getElem? (i := 38) rfl)
  have wo39 := hw _ (List.mem_of_getElem? (i := 39) rfl)
  have wo40 := hw _ (List.mem_of_getElem? (i := 40) rfl)
  have wo41 := hw _ (List.mem_of_getElem? (i := 41) rfl)
  have wo42 := hw _ (List.mem_of_getElem? (i := 42) rfl)
  obtain ⟨re1, kk1, cl1, Ar1, qq1, Sz1, Nn1, Hs1, Gf1⟩ := id pf_X_ar
  obtain ⟨T2, h2, k2, X2, e2, E2, A2, st2⟩ := newP (aty := .byte) X0 hx hZ wo15 e0 (g := (mkF m 15 #[rv ar, iv (1 : Int32), .unset] [(.int (1 : Int32))])) rfl (hb hby d7_15) rfl (by decide) (cap := 1) (by decide) (by decide) (by decide) (by decide)
  obtain ⟨b2, gg2⟩ : ∃ z, z = h0.size := ⟨_, rfl⟩
  rw [← gg2] at A2 st2
  have ne3 : ar ≠ b2 := Nat.ne_of_lt (Nat.lt_of_lt_of_le pf_X_ar.lt (Nat.le_of_eq gg2.symm))
  have g4 : n0 ≤ b2 := Nat.le_trans Z0 (Nat.le_of_eq gg2.symm)
  have bz5 : h0.size ≤ b2 := Nat.le_trans (Keep.refl h0 []).1 (Nat.le_of_eq gg2.symm)
  have K7 : Keep h0 h2 [] := (Keep.refl h0 []).ext E2
  have f6 : Av Z h2 b2 .byte (1 : Int32) [(.int (0 : Int32))] (.int (0 : Int32)) := ⟨_, (Arv.new A2 (by decide)).pad (pad_rep [] (.int (0 : Int32)) 1)⟩
  have f8 := (pf_X_ar.ext E2)
  obtain ⟨re9, kk9, cl9, Ar9, qq9, Sz9, Nn9, Hs9, Gf9⟩ := id f8
  have f11 := (Nat.le_trans Z0 E2.1)
  obtain ⟨_, _, ⟨T10, L10, k10, n10⟩, -, X10, ⟨Lc10, hQ10, l10, y10, z10⟩, st10⟩ := Jvm.LawKit.callS X2 hx (y := MN8) hown (mvT hZ wo36) (mvT hZ wo37) (mvT hZ wo13) (mvT hZ wo38) (by decide) (backOf (W := 4) (rm8 l Z a0 hw [] (0 : Int32) (1 : Int32) h2 n0 f11 ) hZ wo38 wo13 (by decide) (by decide)) (g := (mkF m 25 #[rv ar, iv (1 : Int32), rv b2] [(.int (1 : Int32)), (.int (0 : Int32)), (.int (0 : Int32)), (.ref b2), (.int (0 : Int32)), (.ref ar)])) rfl (by rw [hml]; rfl) (argsL := [(.int (0 : Int32)), (.int (1 : Int32))]) (rest := [(.int (0 : Int32)), (.ref b2), (.int (0 : Int32)), (.ref ar)]) (lenOf pd_3 rfl) rfl (by show 2 * 0 + _ ≤ _; exact Nat.le_of_eq rfl) (hb hby d7_25) (fun _ _ => ⟨rfl, e2, (by decide : 1 + 0 ≤ _), (by decide : 1 + 0 ≤ _)⟩)
  dsimp only [Pt.U, Pt.locs, Pt.cells, Pt.slots] at X10 l10 y10 z10 st10 hQ10
  rw [l10, y10, z10] at X10
  obtain ⟨rfl, N10q, K10q⟩ := hQ10
  have N12 := Fr.app N0 N10q
  have q13 : (if (1 : Int32) < (0 : Int32) then (1 : Int32) else (0 : Int32)) = (0 : Int32) := if_neg (by decide)
  obtain ⟨rs14, ks14, As14⟩ := id f8
  obtain ⟨kd14, Bd14⟩ := id f6
  obtain ⟨T14, h14, L14, X14, e14, N14, K14c, V14, st14⟩ := cpA X10 hx hZ hown wo39 wo42 wo40 wo41 K10q As14 Bd14 (Or.inl ⟨rfl, rfl⟩) (sp := (0 : Int32)) (dp := (0 : Int32)) (nn := (0 : Int32)) (us := []) (by decide) (by decide) (by decide) (by decide) (by decide) rfl (by decide) N12 g4 (g := (mkF m 28 #[rv ar, iv (1 : Int32), rv b2] [(.int (0 : Int32)), (.int (0 : Int32)), (.ref b2), (.int (0 : Int32)), (.ref ar)])) rfl (by rw [hml]; rfl) rfl (hb hby d7_28) (by decide) (W := 0) (by show 2 * 0 + _ ≤ _; exact Nat.le_of_eq rfl) (by decide +kernel)
  have K15 : Keep h0 h14 [] := (K7).trans K14c (allS (P := fun x => x ∈ [] ∨ h0.size ≤ x) (Or.inr bz5) all0)
  have f16 : Av Z h14 b2 .byte (1 : Int32) [(.int (0 : Int32))] (.int (0 : Int32)) := ⟨_, V14⟩
  obtain ⟨fs, hr, hrun, hended, hW, hsame⟩ := X14.leave (v := some (.ref b2)) (fun h => by rw [Bd.returns] at h; cases h)
  refine ⟨_, _, pre0 _ ?_, hrun, hended, _, _, rfl, ?_, ⟨_, rfl⟩, hW, hsame.mono (by decide) (by decide)⟩
  · show Steps p.tables e below (s₁.setTop (mkF m 0 #[rv ar, iv (1 : Int32), .unset] [])) _
    refine XS.iloadN X0.here hx rfl (hb hby d7_0) rfl ?_
    show Steps p.tables e below (s₁.setTop (mkF m 1 #[rv ar, iv (1 : Int32), .unset] [(.int (1 : Int32))])) _
    refine XS.aloadN X0.here hx rfl (hb hby d7_1) rfl rfl ?_
    show Steps p.tables e below (s₁.setTop (mkF m 2 #[rv ar, iv (1 : Int32), .unset] [(.ref ar), (.int (1 : Int32))])) _
    refine X0.arraylength hx (by rw [e0]; exact Ar1.1) (State.isArrayOf_alike hZ.alike Ar1.2.1) (g := (mkF m 2 #[rv ar, iv (1 : Int32), .unset] [(.ref ar), (.int (1 : Int32))])) rfl rfl (hb hby d7_2) _ ?_
    rw [len_of Sz1 Nn1]
    show Steps p.tables e below (s₁.setTop (mkF m 3 #[rv ar, iv (1 : Int32), .unset] [(.int (0 : Int32)), (.int (1 : Int32))])) _
    refine XS.icmpYes X0.here hx rfl (pc0 := 3) (pc' := 14) rfl (hb hby d7_3) rfl (feq (by decide : ¬ ((1 : Int32) = (0 : Int32)))).2 (by decide) (by decide) ?_
    refine XS.iloadN X0.here hx rfl (hb hby d7_14) rfl ?_
    show Steps p.tables e below (s₁.setTop (mkF m 15 #[rv ar, iv (1 : Int32), .unset] [(.int (1 : Int32))])) _
    refine st2 _ ?_
    show Steps p.tables e below (T2.setTop (mkF m 17 #[rv ar, iv (1 : Int32), .unset] [(.ref b2)])) _
    refine XS.astoreN X2.here hx rfl (hb hby d7_17) rfl rfl (l' := #[rv ar, iv (1 : Int32), rv b2]) rfl ?_
    refine XS.aloadN X2.here hx rfl (hb hby d7_18) rfl rfl ?_
    refine XS.iconst X2.here hx rfl (hb hby d7_19) ?_
    show Steps p.tables e below (T2.setTop (mkF m 20 #[rv ar, iv (1 : Int32), rv b2] [(.int (0 : Int32)), (.ref ar)])) _
    refine XS.aloadN X2.here hx rfl (hb hby d7_20) rfl rfl ?_
    refine XS.iconst X2.here hx rfl (hb hby d7_21) ?_
    refine XS.aloadN X2.here hx rfl (hb hby d7_22) rfl rfl ?_
    show Steps p.tables e below (T2.setTop (mkF m 23 #[rv ar, iv (1 : Int32), rv b2] [(.ref ar), (.int (0 : Int32)), (.ref b2), (.int (0 : Int32)), (.ref ar)])) _
    refine X2.arraylength hx (by rw [e2]; exact Ar9.1) (State.isArrayOf_alike hZ.alike Ar9.2.1) (g := (mkF m 23 #[rv ar, iv (1 : Int32), rv b2] [(.ref ar), (.int (0 : Int32)), (.ref b2), (.int (0 : Int32)), (.ref ar)])) rfl rfl (hb hby d7_23) _ ?_
    rw [len_of Sz9 Nn9]
    show Steps p.tables e below (T2.setTop (mkF m 24 #[rv ar, iv (1 : Int32), rv b2] [(.int (0 : Int32)), (.int (0 : Int32)), (.ref b2), (.int (0 : Int32)), (.ref ar)])) _
    refine XS.iloadN X2.here hx rfl (hb hby d7_24) rfl ?_
    show Steps p.tables e below (T2.setTop (mkF m 25 #[rv ar, iv (1 : Int32), rv b2] [(.int (1 : Int32)), (.int (0 : Int32)), (.int (0 : Int32)), (.ref b2), (.int (0 : Int32)), (.ref ar)])) _
    refine st10 _ ?_
    show Steps p.tables e below (T10.setTop (mkF m 28 #[rv ar, iv (1 : Int32), rv b2] [(.int (if (1 : Int32) < (0 : Int32) then (1 : Int32) else (0 : Int32))), (.int (0 : Int32)), (.ref b2), (.int (0 : Int32)), (.ref ar)])) _
    rw [q13]
    show Steps p.tables e below (T10.setTop (mkF m 28 #[rv ar, iv (1 : Int32), rv b2] [(.int (0 : Int32)), (.int (0 : Int32)), (.ref b2), (.int (0 : Int32)), (.ref ar)])) _
    show Steps p.tables e below (T10.setTop (mkF m 28 #[rv ar, iv (1 : Int32), rv b2] [(.int (0 : Int32)), (.int (0 : Int32)), (.ref b2), (.int (0 : Int32)), (.ref ar)])) _
    refine st14 _ ?_
    show Steps p.tables e below (T14.setTop (mkF m 31 #[rv ar, iv (1 : Int32), rv b2] [])) _
    refine XS.aloadN X14.here hx rfl (hb hby d7_31) rfl rfl ?_
    show Steps p.tables e below (T14.setTop (mkF m 32 #[rv ar, iv (1 : Int32), rv b2] [(.ref b2)])) _
    exact retOut X14 hx Bd.returns rfl (Or.inr (Or.inr (Or.inr (Or.inr ⟨rfl, rfl, rfl⟩)))) (hb hby d7_32) hr
  · show Q_rm_cg0 Z _ h0 n0 _ T14.heap _
    rw [e14]
    exact ⟨b2, rfl, N14, (K15), bz5, f16⟩
theorem ef_rm_cg1 (m : MethodId) (x0 : Addr) (x1 : Int32) : entryFrame m #[(.ref x0), (.int x1)] 3 = mkF m 0 #[rv x0, iv x1, .unset] [] := by first | (simp [entryFrame, mkF, argsToLocals, Value.category]; done) | rfl
def Q_rm_cg1 (Z : State) (ar : Addr) (x0 : Int32) (h0 : Heap) (n0 : Nat) (v : Option Value) (h : Heap) (L : List Loc) : Prop := ∃ (b : Addr), v = some (.ref b) ∧ Fr n0 L ∧ Keep h0 h [] ∧ (h0.size ≤ b) ∧ (Av Z h b .byte (2 : Int32) [(.int x0), (.int (0 : Int32))] (.int (0 : Int32)))
set_option maxRecDepth 65536 in
set_option maxHeartbeats 40000000 in
theorem rm_cg1 (l : Launch) (Z : State) (a0 : Array Value) (hw : ∀ d ∈ tables_1, d.before a0 Z = true) (ws : List Jvm.Cond) (ar : Addr) (x0 : Int32) (h0 : Heap) (n0 : Nat) (Z0 : n0 ≤ h0.size) (pf_X_ar : Px Z h0 ar .byte (1 : Int32) [(.int x0)]) :
    MetFree l (⟨"java/util/Arrays", "copyOf", "([BI)[B"⟩ : MethodName) (head1 (Jvm.Cond.code (⟨"java/util/Arrays", "copyOf", "([BI)[B"⟩ : MethodName) jdk_65_method_121_code 3 (some (.array .byte)) :: ws) ({ frames := 1, cells := 1, slots := 2, locals := 18 } : Room)) (fun a U => a = #[(.ref ar), (.int (2 : Int32))] ∧ Z.Warmed39 U.vm ∧ U.heap = h0) (fun _ _ _ _ _ => True) (fun _ U o U' => ∃ v L, o = .returned v ∧ Q_rm_cg1 Z ar x0 h0 n0 v U'.heap L ∧ FrameEnd U o U' L ({ frames := 1, cells := 1, slots := 2, locals := 18 } : Room).cells ({ frames := 1, cells := 1, slots := 2, locals := 18 } : Room).slots) := by
  refine MetFree.of_bodySF (plainFor_of_name pn_java_util_Arrays) hisR ?_
  intro p e s m args below meth c s₁ Bd hml0 hP hK
  obtain ⟨rfl, hZ, hh⟩ := hP
  have hx := Bd.exec
  have hby := Bd.bytes
  have hml : c.maxLocals = 3 := hml0
  have hown : s.vm.findClass "java/util/Arrays" = some m.cls := findClass_of_methodNamed Bd.named
  have hnm := (name_of_methodNamed Bd.named Bd.method).1
  have X0 : Stand p l e ({ frames := 1, cells := 1, slots := 2, locals := 18 } : Room) s m #[(.ref ar), (.int (2 : Int32))] below meth c s₁ [] 0 0 := Stand.of_body Bd
  have e0 : s₁.heap = h0 := by rw [← hh, Bd.state]; rfl
  have N0 := Fr.nil n0
  have pre0 : ∀ t, Steps p.tables e below (s₁.setTop (mkF m 0 #[rv ar, iv (2 : Int32), .unset] [])) t → Steps p.tables e below (s₁.setTop (entryFrame m #[(.ref ar), (.int (2 : Int32))] 3)) t := fun t k => castTop (ef_rm_cg1 m ar (2 : Int32)) k
  have wo13 := hw _ (List.mem_of_getElem? (i := 13) rfl)
  have wo15 := hw _ (List.mem_of_getElem? (i := 15) rfl)
  have wo36 := hw _ (List.mem_of_getElem? (i := 36) rfl)
  have wo37 := hw _ (List.mem_of_getElem? (i := 37) rfl)
  have wo38 := hw _ (List.mem_of_getElem? (i := 38) rfl)
  have wo39 := hw _ (List.mem_of_getElem? (i := 39) rfl)
  have wo40 := hw _ (List.mem_of_getElem? (i := 40) rfl)
  have wo41 := hw _ (List.mem_of_getElem? (i := 41) rfl)
  have wo42 := hw _ (List.mem_of_getElem? (i := 42) rfl)
  obtain ⟨re1, kk1, cl1, Ar1, qq1, Sz1, Nn1, Hs1, Gf1⟩ := id pf_X_ar
  obtain ⟨T2, h2, k2, X2, e2, E2, A2, st2⟩ := newP (aty := .byte) X0 hx hZ wo15 e0 (g := (mkF m 15 #[rv ar, iv (2 : Int32), .unset] [(.int (2 : Int32))])) rfl (hb hby d7_15) rfl (by decide) (cap := 2) (by decide) (by decide) (by decide) (by decide)
  obtain ⟨b2, gg2⟩ : ∃ z, z = h0.size := ⟨_, rfl⟩
  rw [← gg2] at A2 st2
  have ne3 : ar ≠ b2 := Nat.ne_of_lt (Nat.lt_of_lt_of_le pf_X_ar.lt (Nat.le_of_eq gg2.symm))
  have g4 : n0 ≤ b2 := Nat.le_trans Z0 (Nat.le_of_eq gg2.symm)
  have bz5 : h0.size ≤ b2 := Nat.le_trans (Keep.refl h0 []).1 (Nat.le_of_eq gg2.symm)
  have K7 : Keep h0 h2 [] := (Keep.refl h0 []).ext E2
  have f6 : Av Z h2 b2 .byte (2 : Int32) [(.int (0 : Int32)), (.int (0 : Int32))] (.int (0 : Int32)) := ⟨_, (Arv.new A2 (by decide)).pad (pad_rep [] (.int (0 : Int32)) 2)⟩
  have f8 := (pf_X_ar.ext E2)
  obtain ⟨re9, kk9, cl9, Ar9, qq9, Sz9, Nn9, Hs9, Gf9⟩ := id f8
  have f11 := (Nat.le_trans Z0 E2.1)
  obtain ⟨_, _, ⟨T10, L10, k10, n10⟩, -, X10, ⟨Lc10, hQ10, l10, y10, z10⟩, st10⟩ := Jvm.LawKit.callS X2 hx (y := MN8) hown (mvT hZ wo36) (mvT hZ wo37) (mvT hZ wo13) (mvT hZ wo38) (by decide) (backOf (W := 4) (rm8 l Z a0 hw [] (1 : Int32) (2 : Int32) h2 n0 f11 ) hZ wo38 wo13 (by decide) (by decide)) (g := (mkF m 25 #[rv ar, iv (2 : Int32), rv b2] [(.int (2 : Int32)), (.int (1 : Int32)), (.int (0 : Int32)), (.ref b2), (.int (0 : Int32)), (.ref ar)])) rfl (by rw [hml]; rfl) (argsL := [(.int (1 : Int32)), (.int (2 : Int32))]) (rest := [(.int (0 : Int32)), (.ref b2), (.int (0 : Int32)), (.ref ar)]) (lenOf pd_3 rfl) rfl (by show 2 * 0 + _ ≤ _; exact Nat.le_of_eq rfl) (hb hby d7_25) (fun _ _ => ⟨rfl, e2, (by decide : 1 + 0 ≤ _), (by decide : 2 + 0 ≤ _)⟩)
  dsimp only [Pt.U, Pt.locs, Pt.cells, Pt.slots] at X10 l10 y10 z10 st10 hQ10
  rw [l10, y10, z10] at X10
  obtain ⟨rfl, N10q, K10q⟩ := hQ10
  have N12 := Fr.app N0 N10q
  have q13 : (if (2 : Int32) < (1 : Int32) then (2 : Int32) else (1 : Int32)) = (1 : Int32) := if_neg (by decide)
  obtain ⟨rs14, ks14, As14⟩ := id f8
  obtain ⟨kd14, Bd14⟩ := id f6
  obtain ⟨T14, h14, L14, X14, e14, N14, K14c, V14, st14⟩ := cpA X10 hx hZ hown wo39 wo42 wo40 wo41 K10q As14 Bd14 (Or.inl ⟨rfl, rfl⟩) (sp := (0 : Int32)) (dp := (0 : Int32)) (nn := (1 : Int32)) (us := [(.int x0)]) (by decide) (by decide) (by decide) (by decide) (by decide) rfl (by decide) N12 g4 (g := (mkF m 28 #[rv ar, iv (2 : Int32), rv b2] [(.int (1 : Int32)), (.int (0 : Int32)), (.ref b2), (.int (0 : Int32)), (.ref ar)])) rfl (by rw [hml]; rfl) rfl (hb hby d7_28) (by decide) (W := 0) (by show 2 * 0 + _ ≤ _; exact Nat.le_of_eq rfl) (by decide +kernel)
  have K15 : Keep h0 h14 [] := (K7).trans K14c (allS (P := fun x => x ∈ [] ∨ h0.size ≤ x) (Or.inr bz5) all0)
  have f16 : Av Z h14 b2 .byte (2 : Int32) [(.int x0), (.int (0 : Int32))] (.int (0 : Int32)) := ⟨_, V14⟩
  obtain ⟨fs, hr, hrun, hended, hW, hsame⟩ := X14.leave (v := some (.ref b2)) (fun h => by rw [Bd.returns] at h; cases h)
  refine ⟨_, _, pre0 _ ?_, hrun, hended, _, _, rfl, ?_, ⟨_, rfl⟩, hW, hsame.mono (by decide) (by decide)⟩
  · show Steps p.tables e below (s₁.setTop (mkF m 0 #[rv ar, iv (2 : Int32), .unset] [])) _
    refine XS.iloadN X0.here hx rfl (hb hby d7_0) rfl ?_
    show Steps p.tables e below (s₁.setTop (mkF m 1 #[rv ar, iv (2 : Int32), .unset] [(.int (2 : Int32))])) _
    refine XS.aloadN X0.here hx rfl (hb hby d7_1) rfl rfl ?_
    show Steps p.tables e below (s₁.setTop (mkF m 2 #[rv ar, iv (2 : Int32), .unset] [(.ref ar), (.int (2 : Int32))])) _
    refine X0.arraylength hx (by rw [e0]; exact Ar1.1) (State.isArrayOf_alike hZ.alike Ar1.2.1) (g := (mkF m 2 #[rv ar, iv (2 : Int32), .unset] [(.ref ar), (.int (2 : Int32))])) rfl rfl (hb hby d7_2) _ ?_
    rw [len_of Sz1 Nn1]
    show Steps p.tables e below (s₁.setTop (mkF m 3 #[rv ar, iv (2 : Int32), .unset] [(.int (1 : Int32)), (.int (2 : Int32))])) _
    refine XS.icmpYes X0.here hx rfl (pc0 := 3) (pc' := 14) rfl (hb hby d7_3) rfl (feq (by decide : ¬ ((2 : Int32) = (1 : Int32)))).2 (by decide) (by decide) ?_
    refine XS.iloadN X0.here hx rfl (hb hby d7_14) rfl ?_
    show Steps p.tables e below (s₁.setTop (mkF m 15 #[rv ar, iv (2 : Int32), .unset] [(.int (2 : Int32))])) _
    refine st2 _ ?_
    show Steps p.tables e below (T2.setTop (mkF m 17 #[rv ar, iv (2 : Int32), .unset] [(.ref b2)])) _
    refine XS.astoreN X2.here hx rfl (hb hby d7_17) rfl rfl (l' := #[rv ar, iv (2 : Int32), rv b2]) rfl ?_
    refine XS.aloadN X2.here hx rfl (hb hby d7_18) rfl rfl ?_
    refine XS.iconst X2.here hx rfl (hb hby d7_19) ?_
    show Steps p.tables e below (T2.setTop (mkF m 20 #[rv ar, iv (2 : Int32), rv b2] [(.int (0 : Int32)), (.ref ar)])) _
    refine XS.aloadN X2.here hx rfl (hb hby d7_20) rfl rfl ?_
    refine XS.iconst X2.here hx rfl (hb hby d7_21) ?_
    refine XS.aloadN X2.here hx rfl (hb hby d7_22) rfl rfl ?_
    show Steps p.tables e below (T2.setTop (mkF m 23 #[rv ar, iv (2 : Int32), rv b2] [(.ref ar), (.int (0 : Int32)), (.ref b2), (.int (0 : Int32)), (.ref ar)])) _
    refine X2.arraylength hx (by rw [e2]; exact Ar9.1) (State.isArrayOf_alike hZ.alike Ar9.2.1) (g := (mkF m 23 #[rv ar, iv (2 : Int32), rv b2] [(.ref ar), (.int (0 : Int32)), (.ref b2), (.int (0 : Int32)), (.ref ar)])) rfl rfl (hb hby d7_23) _ ?_
    rw [len_of Sz9 Nn9]
    show Steps p.tables e below (T2.setTop (mkF m 24 #[rv ar, iv (2 : Int32), rv b2] [(.int (1 : Int32)), (.int (0 : Int32)), (.ref b2), (.int (0 : Int32)), (.ref ar)])) _
    refine XS.iloadN X2.here hx rfl (hb hby d7_24) rfl ?_
    show Steps p.tables e below (T2.setTop (mkF m 25 #[rv ar, iv (2 : Int32), rv b2] [(.int (2 : Int32)), (.int (1 : Int32)), (.int (0 : Int32)), (.ref b2), (.int (0 : Int32)), (.ref ar)])) _
    refine st10 _ ?_
    show Steps p.tables e below (T10.setTop (mkF m 28 #[rv ar, iv (2 : Int32), rv b2] [(.int (if (2 : Int32) < (1 : Int32) then (2 : Int32) else (1 : Int32))), (.int (0 : Int32)), (.ref b2), (.int (0 : Int32)), (.ref ar)])) _
    rw [q13]
    show Steps p.tables e below (T10.setTop (mkF m 28 #[rv ar, iv (2 : Int32), rv b2] [(.int (1 : Int32)), (.int (0 : Int32)), (.ref b2), (.int (0 : Int32)), (.ref ar)])) _
    show Steps p.tables e below (T10.setTop (mkF m 28 #[rv ar, iv (2 : Int32), rv b2] [(.int (1 : Int32)), (.int (0 : Int32)), (.ref b2), (.int (0 : Int32)), (.ref ar)])) _
    refine st14 _ ?_
    show Steps p.tables e below (T14.setTop (mkF m 31 #[rv ar, iv (2 : Int32), rv b2] [])) _
    refine XS.aloadN X14.here hx rfl (hb hby d7_31) rfl rfl ?_
    show Steps p.tables e below (T14.setTop (mkF m 32 #[rv ar, iv (2 : Int32), rv b2] [(.ref b2)])) _
    exact retOut X14 hx Bd.returns rfl (Or.inr (Or.inr (Or.inr (Or.inr ⟨rfl, rfl, rfl⟩)))) (hb hby d7_32) hr
  · show Q_rm_cg1 Z _ _ h0 n0 _ T14.heap _
    rw [e14]
    exact ⟨b2, rfl, N14, (K15), bz5, f16⟩
theorem ef_rm_cg2 (m : MethodId) (x0 : Addr) (x1 : Int32) : entryFrame m #[(.ref x0), (.int x1)] 3 = mkF m 0 #[rv x0, iv x1, .unset] [] := by first | (simp [entryFrame, mkF, argsToLocals, Value.category]; done) | rfl
def Q_rm_cg2 (Z : State) (ar : Addr) (x0 : Int32) (x1 : Int32) (h0 : Heap) (n0 : Nat) (v : Option Value) (h : Heap) (L : List Loc) : Prop := ∃ (b : Addr), v = some (.ref b) ∧ Fr n0 L ∧ Keep h0 h [] ∧ (h0.size ≤ b) ∧ (Av Z h b .byte (4 : Int32) [(.int x0), (.int x1), (.int (0 : Int32)), (.int (0 : Int32))] (.int (0 : Int32)))
set_option maxRecDepth 65536 in
set_option maxHeartbeats 40000000 in
theorem rm_cg2 (l : Launch) (Z : State) (a0 : Array Value) (hw : ∀ d ∈ tables_1, d.before a0 Z = true) (ws : List Jvm.Cond) (ar : Addr) (x0 : Int32) (x1 : Int32) (h0 : Heap) (n0 : Nat) (Z0 : n0 ≤ h0.size) (pf_X_ar : Px Z h0 ar .byte (2 : Int32) [(.int x0), (.int x1)]) :
    MetFree l (⟨"java/util/Arrays", "copyOf", "([BI)[B"⟩ : MethodName) (head1 (Jvm.Cond.code (⟨"java/util/Arrays", "copyOf", "([BI)[B"⟩ : MethodName) jdk_65_method_121_code 3 (some (.array .byte)) :: ws) ({ frames := 1, cells := 1, slots := 4, locals := 18 } : Room)) (fun a U => a = #[(.ref ar), (.int (4 : Int32))] ∧ Z.Warmed39 U.vm ∧ U.heap = h0) (fun _ _ _ _ _ => True) (fun _ U o U' => ∃ v L, o = .returned v ∧ Q_rm_cg2 Z ar x0 x1 h0 n0 v U'.heap L ∧ FrameEnd U o U' L ({ frames := 1, cells := 1, slots := 4, locals := 18 } : Room).cells ({ frames := 1, cells := 1, slots := 4, locals := 18 } : Room).slots) := by
  refine MetFree.of_bodySF (plainFor_of_name pn_java_util_Arrays) hisR ?_
  intro p e s m args below meth c s₁ Bd hml0 hP hK
  obtain ⟨rfl, hZ, hh⟩ := hP
  have hx := Bd.exec
  have hby := Bd.bytes
  have hml : c.maxLocals = 3 := hml0
  have hown : s.vm.findClass "java/util/Arrays" = some m.cls := findClass_of_methodNamed Bd.named
  have hnm := (name_of_methodNamed Bd.named Bd.method).1
  have X0 : Stand p l e ({ frames := 1, cells := 1, slots := 4, locals := 18 } : Room) s m #[(.ref ar), (.int (4 : Int32))] below meth c s₁ [] 0 0 := Stand.of_body Bd
  have e0 : s₁.heap = h0 := by rw [← hh, Bd.state]; rfl
  have N0 := Fr.nil n0
  have pre0 : ∀ t, Steps p.tables e below (s₁.setTop (mkF m 0 #[rv ar, iv (4 : Int32), .unset] [])) t → Steps p.tables e below (s₁.setTop (entryFrame m #[(.ref ar), (.int (4 : Int32))] 3)) t := fun t k => castTop (ef_rm_cg2 m ar (4 : Int32)) k
  have wo13 := hw _ (List.mem_of_getElem? (i := 13) rfl)
  have wo15 := hw _ (List.mem_of_getElem? (i := 15) rfl)
  have wo36 := hw _ (List.mem_of_getElem? (i := 36) rfl)
  have wo37 := hw _ (List.mem_of_getElem? (i := 37) rfl)
  have wo38 := hw _ (List.mem_of_getElem? (i := 38) rfl)
  have wo39 := hw _ (List.mem_of_getElem? (i := 39) rfl)
  have wo40 := hw _ (List.mem_of_getElem? (i := 40) rfl)
  have wo41 := hw _ (List.mem_of_getElem? (i := 41) rfl)
  have wo42 := hw _ (List.mem_of_getElem? (i := 42) rfl)
  obtain ⟨re1, kk1, cl1, Ar1, qq1, Sz1, Nn1, Hs1, Gf1⟩ := id pf_X_ar
  obtain ⟨T2, h2, k2, X2, e2, E2, A2, st2⟩ := newP (aty := .byte) X0 hx hZ wo15 e0 (g := (mkF m 15 #[rv ar, iv (4 : Int32), .unset] [(.int (4 : Int32))])) rfl (hb hby d7_15) rfl (by decide) (cap := 4) (by decide) (by decide) (by decide) (by decide)
  obtain ⟨b2, gg2⟩ : ∃ z, z = h0.size := ⟨_, rfl⟩
  rw [← gg2] at A2 st2
  have ne3 : ar ≠ b2 := Nat.ne_of_lt (Nat.lt_of_lt_of_le pf_X_ar.lt (Nat.le_of_eq gg2.symm))
  have g4 : n0 ≤ b2 := Nat.le_trans Z0 (Nat.le_of_eq gg2.symm)
  have bz5 : h0.size ≤ b2 := Nat.le_trans (Keep.refl h0 []).1 (Nat.le_of_eq gg2.symm)
  have K7 : Keep h0 h2 [] := (Keep.refl h0 []).ext E2
  have f6 : Av Z h2 b2 .byte (4 : Int32) [(.int (0 : Int32)), (.int (0 : Int32)), (.int (0 : Int32)), (.int (0 : Int32))] (.int (0 : Int32)) := ⟨_, (Arv.new A2 (by decide)).pad (pad_rep [] (.int (0 : Int32)) 4)⟩
  have f8 := (pf_X_ar.ext E2)
  obtain ⟨re9, kk9, cl9, Ar9, qq9, Sz9, Nn9, Hs9, Gf9⟩ := id f8
  have f11 := (Nat.le_trans Z0 E2.1)
  obtain ⟨_, _, ⟨T10, L10, k10, n10⟩, -, X10, ⟨Lc10, hQ10, l10, y10, z10⟩, st10⟩ := Jvm.LawKit.callS X2 hx (y := MN8) hown (mvT hZ wo36) (mvT hZ wo37) (mvT hZ wo13) (mvT hZ wo38) (by decide) (backOf (W := 4) (rm8 l Z a0 hw [] (2 : Int32) (4 : Int32) h2 n0 f11 ) hZ wo38 wo13 (by decide) (by decide)) (g := (mkF m 25 #[rv ar, iv (4 : Int32), rv b2] [(.int (4 : Int32)), (.int (2 : Int32)), (.int (0 : Int32)), (.ref b2), (.int (0 : Int32)), (.ref ar)])) rfl (by rw [hml]; rfl) (argsL := [(.int (2 : Int32)), (.int (4 : Int32))]) (rest := [(.int (0 : Int32)), (.ref b2), (.int (0 : Int32)), (.ref ar)]) (lenOf pd_3 rfl) rfl (by show 2 * 0 + _ ≤ _; exact Nat.le_of_eq rfl) (hb hby d7_25) (fun _ _ => ⟨rfl, e2, (by decide : 1 + 0 ≤ _), (by decide : 4 + 0 ≤ _)⟩)
  dsimp only [Pt.U, Pt.locs, Pt.cells, Pt.slots] at X10 l10 y10 z10 st10 hQ10
  rw [l10, y10, z10] at X10
  obtain ⟨rfl, N10q, K10q⟩ := hQ10
  have N12 := Fr.app N0 N10q
  have q13 : (if (4 : Int32) < (2 : Int32) then (4 : Int32) else (2 : Int32)) = (2 : Int32) := if_neg (by decide)
  obtain ⟨rs14, ks14, As14⟩ := id f8
  obtain ⟨kd14, Bd14⟩ := id f6
  obtain ⟨T14, h14, L14, X14, e14, N14, K14c, V14, st14⟩ := cpA X10 hx hZ hown wo39 wo42 wo40 wo41 K10q As14 Bd14 (Or.inl ⟨rfl, rfl⟩) (sp := (0 : Int32)) (dp := (0 : Int32)) (nn := (2 : Int32)) (us := [(.int x0), (.int x1)]) (by decide) (by decide) (by decide) (by decide) (by decide) rfl (by decide) N12 g4 (g := (mkF m 28 #[rv ar, iv (4 : Int32), rv b2] [(.int (2 : Int32)), (.int (0 : Int32)), (.ref b2), (.int (0 : Int32)), (.ref ar)])) rfl (by rw [hml]; rfl) rfl (hb hby d7_28) (by decide) (W := 0) (by show 2 * 0 + _ ≤ _; exact Nat.le_of_eq rfl) (by decide +kernel)
  have K15 : Keep h0 h14 [] := (K7).trans K14c (allS (P := fun x => x ∈ [] ∨ h0.size ≤ x) (Or.inr bz5) all0)
  have f16 : Av Z h14 b2 .byte (4 : Int32) [(.int x0), (.int x1), (.int (0 : Int32)), (.int (0 : Int32))] (.int (0 : Int32)) := ⟨_, V14⟩
  obtain ⟨fs, hr, hrun, hended, hW, hsame⟩ := X14.leave (v := some (.ref b2)) (fun h => by rw [Bd.returns] at h; cases h)
  refine ⟨_, _, pre0 _ ?_, hrun, hended, _, _, rfl, ?_, ⟨_, rfl⟩, hW, hsame.mono (by decide) (by decide)⟩
  · show Steps p.tables e below (s₁.setTop (mkF m 0 #[rv ar, iv (4 : Int32), .unset] [])) _
    refine XS.iloadN X0.here hx rfl (hb hby d7_0) rfl ?_
    show Steps p.tables e below (s₁.setTop (mkF m 1 #[rv ar, iv (4 : Int32), .unset] [(.int (4 : Int32))])) _
    refine XS.aloadN X0.here hx rfl (hb hby d7_1) rfl rfl ?_
    show Steps p.tables e below (s₁.setTop (mkF m 2 #[rv ar, iv (4 : Int32), .unset] [(.ref ar), (.int (4 : Int32))])) _
    refine X0.arraylength hx (by rw [e0]; exact Ar1.1) (State.isArrayOf_alike hZ.alike Ar1.2.1) (g := (mkF m 2 #[rv ar, iv (4 : Int32), .unset] [(.ref ar), (.int (4 : Int32))])) rfl rfl (hb hby d7_2) _ ?_
    rw [len_of Sz1 Nn1]
    show Steps p.tables e below (s₁.setTop (mkF m 3 #[rv ar, iv (4 : Int32), .unset] [(.int (2 : Int32)), (.int (4 : Int32))])) _
    refine XS.icmpYes X0.here hx rfl (pc0 := 3) (pc' := 14) rfl (hb hby d7_3) rfl (feq (by decide : ¬ ((4 : Int32) = (2 : Int32)))).2 (by decide) (by decide) ?_
    refine XS.iloadN X0.here hx rfl (hb hby d7_14) rfl ?_
    show Steps p.tables e below (s₁.setTop (mkF m 15 #[rv ar, iv (4 : Int32), .unset] [(.int (4 : Int32))])) _
    refine st2 _ ?_
    show Steps p.tables e below (T2.setTop (mkF m 17 #[rv ar, iv (4 : Int32), .unset] [(.ref b2)])) _
    refine XS.astoreN X2.here hx rfl (hb hby d7_17) rfl rfl (l' := #[rv ar, iv (4 : Int32), rv b2]) rfl ?_
    refine XS.aloadN X2.here hx rfl (hb hby d7_18) rfl rfl ?_
    refine XS.iconst X2.here hx rfl (hb hby d7_19) ?_
    show Steps p.tables e below (T2.setTop (mkF m 20 #[rv ar, iv (4 : Int32), rv b2] [(.int (0 : Int32)), (.ref ar)])) _
    refine XS.aloadN X2.here hx rfl (hb hby d7_20) rfl rfl ?_
    refine XS.iconst X2.here hx rfl (hb hby d7_21) ?_
    refine XS.aloadN X2.here hx rfl (hb hby d7_22) rfl rfl ?_
    show Steps p.tables e below (T2.setTop (mkF m 23 #[rv ar, iv (4 : Int32), rv b2] [(.ref ar), (.int (0 : Int32)), (.ref b2), (.int (0 : Int32)), (.ref ar)])) _
    refine X2.arraylength hx (by rw [e2]; exact Ar9.1) (State.isArrayOf_alike hZ.alike Ar9.2.1) (g := (mkF m 23 #[rv ar, iv (4 : Int32), rv b2] [(.ref ar), (.int (0 : Int32)), (.ref b2), (.int (0 : Int32)), (.ref ar)])) rfl rfl (hb hby d7_23) _ ?_
    rw [len_of Sz9 Nn9]
    show Steps p.tables e below (T2.setTop (mkF m 24 #[rv ar, iv (4 : Int32), rv b2] [(.int (2 : Int32)), (.int (0 : Int32)), (.ref b2), (.int (0 : Int32)), (.ref ar)])) _
    refine XS.iloadN X2.here hx rfl (hb hby d7_24) rfl ?_
    show Steps p.tables e below (T2.setTop (mkF m 25 #[rv ar, iv (4 : Int32), rv b2] [(.int (4 : Int32)), (.int (2 : Int32)), (.int (0 : Int32)), (.ref b2), (.int (0 : Int32)), (.ref ar)])) _
    refine st10 _ ?_
    show Steps p.tables e below (T10.setTop (mkF m 28 #[rv ar, iv (4 : Int32), rv b2] [(.int (if (4 : Int32) < (2 : Int32) then (4 : Int32) else (2 : Int32))), (.int (0 : Int32)), (.ref b2), (.int (0 : Int32)), (.ref ar)])) _
    rw [q13]
    show Steps p.tables e below (T10.setTop (mkF m 28 #[rv ar, iv (4 : Int32), rv b2] [(.int (2 : Int32)), (.int (0 : Int32)), (.ref b2), (.int (0 : Int32)), (.ref ar)])) _
    show Steps p.tables e below (T10.setTop (mkF m 28 #[rv ar, iv (4 : Int32), rv b2] [(.int (2 : Int32)), (.int (0 : Int32)), (.ref b2), (.int (0 : Int32)), (.ref ar)])) _
    refine st14 _ ?_
    show Steps p.tables e below (T14.setTop (mkF m 31 #[rv ar, iv (4 : Int32), rv b2] [])) _
    refine XS.aloadN X14.here hx rfl (hb hby d7_31) rfl rfl ?_
    show Steps p.tables e below (T14.setTop (mkF m 32 #[rv ar, iv (4 : Int32), rv b2] [(.ref b2)])) _
    exact retOut X14 hx Bd.returns rfl (Or.inr (Or.inr (Or.inr (Or.inr ⟨rfl, rfl, rfl⟩)))) (hb hby d7_32) hr
  · show Q_rm_cg2 Z _ _ _ h0 n0 _ T14.heap _
    rw [e14]
    exact ⟨b2, rfl, N14, (K15), bz5, f16⟩
theorem ef_rm_cg3 (m : MethodId) (x0 : Addr) (x1 : Int32) : entryFrame m #[(.ref x0), (.int x1)] 3 = mkF m 0 #[rv x0, iv x1, .unset] [] := by first | (simp [entryFrame, mkF, argsToLocals, Value.category]; done) | rfl
def Q_rm_cg3 (Z : State) (ar : Addr) (x0 : Int32) (x1 : Int32) (x2 : Int32) (h0 : Heap) (n0 : Nat) (v : Option Value) (h : Heap) (L : List Loc) : Prop := ∃ (b : Addr), v = some (.ref b) ∧ Fr n0 L ∧ Keep h0 h [] ∧ (h0.size ≤ b) ∧ (Av Z h b .byte (6 : Int32) [(.int x0), (.int x1), (.int x2), (.int (0 : Int32)), (.int (0 : Int32)), (.int (0 : Int32))] (.int (0 : Int32)))
set_option maxRecDepth 65536 in
set_option maxHeartbeats 40000000 in
theorem rm_cg3 (l : Launch) (Z : State) (a0 : Array Value) (hw : ∀ d ∈ tables_1, d.before a0 Z = true) (ws : List Jvm.Cond) (ar : Addr) (x0 : Int32) (x1 : Int32) (x2 : Int32) (h0 : Heap) (n0 : Nat) (Z0 : n0 ≤ h0.size) (pf_X_ar : Px Z h0 ar .byte (3 : Int32) [(.int x0), (.int x1), (.int x2)]) :
    MetFree l (⟨"java/util/Arrays", "copyOf", "([BI)[B"⟩ : MethodName) (head1 (Jvm.Cond.code (⟨"java/util/Arrays", "copyOf", "([BI)[B"⟩ : MethodName) jdk_65_method_121_code 3 (some (.array .byte)) :: ws) ({ frames := 1, cells := 1, slots := 6, locals := 18 } : Room)) (fun a U => a = #[(.ref ar), (.int (6 : Int32))] ∧ Z.Warmed39 U.vm ∧ U.heap = h0) (fun _ _ _ _ _ => True) (fun _ U o U' => ∃ v L, o = .returned v ∧ Q_rm_cg3 Z ar x0 x1 x2 h0 n0 v U'.heap L ∧ FrameEnd U o U' L ({ frames := 1, cells := 1, slots := 6, locals := 18 } : Room).cells ({ frames := 1, cells := 1, slots := 6, locals := 18 } : Room).slots) := by
  refine MetFree.of_bodySF (plainFor_of_name pn_java_util_Arrays) hisR ?_
  intro p e s m args below meth c s₁ Bd hml0 hP hK
  obtain ⟨rfl, hZ, hh⟩ := hP
  have hx := Bd.exec
  have hby := Bd.bytes
  have hml : c.maxLocals = 3 := hml0
  have hown : s.vm.findClass "java/util/Arrays" = some m.cls := findClass_of_methodNamed Bd.named
  have hnm := (name_of_methodNamed Bd.named Bd.method).1
  have X0 : Stand p l e ({ frames := 1, cells := 1, slots := 6, locals := 18 } : Room) s m #[(.ref ar), (.int (6 : Int32))] below meth c s₁ [] 0 0 := Stand.of_body Bd
  have e0 : s₁.heap = h0 := by rw [← hh, Bd.state]; rfl
  have N0 := Fr.nil n0
  have pre0 : ∀ t, Steps p.tables e below (s₁.setTop (mkF m 0 #[rv ar, iv (6 : Int32), .unset] [])) t → Steps p.tables e below (s₁.setTop (entryFrame m #[(.ref ar), (.int (6 : Int32))] 3)) t := fun t k => castTop (ef_rm_cg3 m ar (6 : Int32)) k
  have wo13 := hw _ (List.mem_of_getElem? (i := 13) rfl)
  have wo15 := hw _ (List.mem_of_getElem? (i := 15) rfl)
  have wo36 := hw _ (List.mem_of_getElem? (i := 36) rfl)
  have wo37 := hw _ (List.mem_of_getElem? (i := 37) rfl)
  have wo38 := hw _ (List.mem_of_getElem? (i := 38) rfl)
  have wo39 := hw _ (List.mem_of_getElem? (i := 39) rfl)
  have wo40 := hw _ (List.mem_of_getElem? (i := 40) rfl)
  have wo41 := hw _ (List.mem_of_getElem? (i := 41) rfl)
  have wo42 := hw _ (List.mem_of_getElem? (i := 42) rfl)
  obtain ⟨re1, kk1, cl1, Ar1, qq1, Sz1, Nn1, Hs1, Gf1⟩ := id pf_X_ar
  obtain ⟨T2, h2, k2, X2, e2, E2, A2, st2⟩ := newP (aty := .byte) X0 hx hZ wo15 e0 (g := (mkF m 15 #[rv ar, iv (6 : Int32), .unset] [(.int (6 : Int32))])) rfl (hb hby d7_15) rfl (by decide) (cap := 6) (by decide) (by decide) (by decide) (by decide)
  obtain ⟨b2, gg2⟩ : ∃ z, z = h0.size := ⟨_, rfl⟩
  rw [← gg2] at A2 st2
  have ne3 : ar ≠ b2 := Nat.ne_of_lt (Nat.lt_of_lt_of_le pf_X_ar.lt (Nat.le_of_eq gg2.symm))
  have g4 : n0 ≤ b2 := Nat.le_trans Z0 (Nat.le_of_eq gg2.symm)
  have bz5 : h0.size ≤ b2 := Nat.le_trans (Keep.refl h0 []).1 (Nat.le_of_eq gg2.symm)
  have K7 : Keep h0 h2 [] := (Keep.refl h0 []).ext E2
  have f6 : Av Z h2 b2 .byte (6 : Int32) [(.int (0 : Int32)), (.int (0 : Int32)), (.int (0 : Int32)), (.int (0 : Int32)), (.int (0 : Int32)), (.int (0 : Int32))] (.int (0 : Int32)) := ⟨_, (Arv.new A2 (by decide)).pad (pad_rep [] (.int (0 : Int32)) 6)⟩
  have f8 := (pf_X_ar.ext E2)
  obtain ⟨re9, kk9, cl9, Ar9, qq9, Sz9, Nn9, Hs9, Gf9⟩ := id f8
  have f11 := (Nat.le_trans Z0 E2.1)
  obtain ⟨_, _, ⟨T10, L10, k10, n10⟩, -, X10, ⟨Lc10, hQ10, l10, y10, z10⟩, st10⟩ := Jvm.LawKit.callS X2 hx (y := MN8) hown (mvT hZ wo36) (mvT hZ wo37) (mvT hZ wo13) (mvT hZ wo38) (by decide) (backOf (W := 4) (rm8 l Z a0 hw [] (3 : Int32) (6 : Int32) h2 n0 f11 ) hZ wo38 wo13 (by decide) (by decide)) (g := (mkF m 25 #[rv ar, iv (6 : Int32), rv b2] [(.int (6 : Int32)), (.int (3 : Int32)), (.int (0 : Int32)), (.ref b2), (.int (0 : Int32)), (.ref ar)])) rfl (by rw [hml]; rfl) (argsL := [(.int (3 : Int32)), (.int (6 : Int32))]) (rest := [(.int (0 : Int32)), (.ref b2), (.int (0 : Int32)), (.ref ar)]) (lenOf pd_3 rfl) rfl (by show 2 * 0 + _ ≤ _; exact Nat.le_of_eq rfl) (hb hby d7_25) (fun _ _ => ⟨rfl, e2, (by decide : 1 + 0 ≤ _), (by decide : 6 + 0 ≤ _)⟩)
  dsimp only [Pt.U, Pt.locs, Pt.cells, Pt.slots] at X10 l10 y10 z10 st10 hQ10
  rw [l10, y10, z10] at X10
  obtain ⟨rfl, N10q, K10q⟩ := hQ10
  have N12 := Fr.app N0 N10q
  have q13 : (if (6 : Int32) < (3 : Int32) then (6 : Int32) else (3 : Int32)) = (3 : Int32) := if_neg (by decide)
  obtain ⟨rs14, ks14, As14⟩ := id f8
  obtain ⟨kd14, Bd14⟩ := id f6
  obtain ⟨T14, h14, L14, X14, e14, N14, K14c, V14, st14⟩ := cpA X10 hx hZ hown wo39 wo42 wo40 wo41 K10q As14 Bd14 (Or.inl ⟨rfl, rfl⟩) (sp := (0 : Int32)) (dp := (0 : Int32)) (nn := (3 : Int32)) (us := [(.int x0), (.int x1), (.int x2)]) (by decide) (by decide) (by decide) (by decide) (by decide) rfl (by decide) N12 g4 (g := (mkF m 28 #[rv ar, iv (6 : Int32), rv b2] [(.int (3 : Int32)), (.int (0 : Int32)), (.ref b2), (.int (0 : Int32)), (.ref ar)])) rfl (by rw [hml]; rfl) rfl (hb hby d7_28) (by decide) (W := 0) (by show 2 * 0 + _ ≤ _; exact Nat.le_of_eq rfl) (by decide +kernel)
  have K15 : Keep h0 h14 [] := (K7).trans K14c (allS (P := fun x => x ∈ [] ∨ h0.size ≤ x) (Or.inr bz5) all0)
  have f16 : Av Z h14 b2 .byte (6 : Int32) [(.int x0), (.int x1), (.int x2), (.int (0 : Int32)), (.int (0 : Int32)), (.int (0 : Int32))] (.int (0 : Int32)) := ⟨_, V14⟩
  obtain ⟨fs, hr, hrun, hended, hW, hsame⟩ := X14.leave (v := some (.ref b2)) (fun h => by rw [Bd.returns] at h; cases h)
  refine ⟨_, _, pre0 _ ?_, hrun, hended, _, _, rfl, ?_, ⟨_, rfl⟩, hW, hsame.mono (by decide) (by decide)⟩
  · show Steps p.tables e below (s₁.setTop (mkF m 0 #[rv ar, iv (6 : Int32), .unset] [])) _
    refine XS.iloadN X0.here hx rfl (hb hby d7_0) rfl ?_
    show Steps p.tables e below (s₁.setTop (mkF m 1 #[rv ar, iv (6 : Int32), .unset] [(.int (6 : Int32))])) _
    refine XS.aloadN X0.here hx rfl (hb hby d7_1) rfl rfl ?_
    show Steps p.tables e below (s₁.setTop (mkF m 2 #[rv ar, iv (6 : Int32), .unset] [(.ref ar), (.int (6 : Int32))])) _
    refine X0.arraylength hx (by rw [e0]; exact Ar1.1) (State.isArrayOf_alike hZ.alike Ar1.2.1) (g := (mkF m 2 #[rv ar, iv (6 : Int32), .unset] [(.ref ar), (.int (6 : Int32))])) rfl rfl (hb hby d7_2) _ ?_
    rw [len_of Sz1 Nn1]
    show Steps p.tables e below (s₁.setTop (mkF m 3 #[rv ar, iv (6 : Int32), .unset] [(.int (3 : Int32)), (.int (6 : Int32))])) _
    refine XS.icmpYes X0.here hx rfl (pc0 := 3) (pc' := 14) rfl (hb hby d7_3) rfl (feq (by decide : ¬ ((6 : Int32) = (3 : Int32)))).2 (by decide) (by decide) ?_
    refine XS.iloadN X0.here hx rfl (hb hby d7_14) rfl ?_
    show Steps p.tables e below (s₁.setTop (mkF m 15 #[rv ar, iv (6 : Int32), .unset] [(.int (6 : Int32))])) _
    refine st2 _ ?_
    show Steps p.tables e below (T2.setTop (mkF m 17 #[rv ar, iv (6 : Int32), .unset] [(.ref b2)])) _
    refine XS.astoreN X2.here hx rfl (hb hby d7_17) rfl rfl (l' := #[rv ar, iv (6 : Int32), rv b2]) rfl ?_
    refine XS.aloadN X2.here hx rfl (hb hby d7_18) rfl rfl ?_
    refine XS.iconst X2.here hx rfl (hb hby d7_19) ?_
    show Steps p.tables e below (T2.setTop (mkF m 20 #[rv ar, iv (6 : Int32), rv b2] [(.int (0 : Int32)), (.ref ar)])) _
    refine XS.aloadN X2.here hx rfl (hb hby d7_20) rfl rfl ?_
    refine XS.iconst X2.here hx rfl (hb hby d7_21) ?_
    refine XS.aloadN X2.here hx rfl (hb hby d7_22) rfl rfl ?_
    show Steps p.tables e below (T2.setTop (mkF m 23 #[rv ar, iv (6 : Int32), rv b2] [(.ref ar), (.int (0 : Int32)), (.ref b2), (.int (0 : Int32)), (.ref ar)])) _
    refine X2.arraylength hx (by rw [e2]; exact Ar9.1) (State.isArrayOf_alike hZ.alike Ar9.2.1) (g := (mkF m 23 #[rv ar, iv (6 : Int32), rv b2] [(.ref ar), (.int (0 : Int32)), (.ref b2), (.int (0 : Int32)), (.ref ar)])) rfl rfl (hb hby d7_23) _ ?_
    rw [len_of Sz9 Nn9]
    show Steps p.tables e below (T2.setTop (mkF m 24 #[rv ar, iv (6 : Int32), rv b2] [(.int (3 : Int32)), (.int (0 : Int32)), (.ref b2), (.int (0 : Int32)), (.ref ar)])) _
    refine XS.iloadN X2.here hx rfl (hb hby d7_24) rfl ?_
    show Steps p.tables e below (T2.setTop (mkF m 25 #[rv ar, iv (6 : Int32), rv b2] [(.int (6 : Int32)), (.int (3 : Int32)), (.int (0 : Int32)), (.ref b2), (.int (0 : Int32)), (.ref ar)])) _
    refine st10 _ ?_
    show Steps p.tables e below (T10.setTop (mkF m 28 #[rv ar, iv (6 : Int32), rv b2] [(.int (if (6 : Int32) < (3 : Int32) then (6 : Int32) else (3 : Int32))), (.int (0 : Int32)), (.ref b2), (.int (0 : Int32)), (.ref ar)])) _
    rw [q13]
    show Steps p.tables e below (T10.setTop (mkF m 28 #[rv ar, iv (6 : Int32), rv b2] [(.int (3 : Int32)), (.int (0 : Int32)), (.ref b2), (.int (0 : Int32)), (.ref ar)])) _
    show Steps p.tables e below (T10.setTop (mkF m 28 #[rv ar, iv (6 : Int32), rv b2] [(.int (3 : Int32)), (.int (0 : Int32)), (.ref b2), (.int (0 : Int32)), (.ref ar)])) _
    refine st14 _ ?_
    show Steps p.tables e below (T14.setTop (mkF m 31 #[rv ar, iv (6 : Int32), rv b2] [])) _
    refine XS.aloadN X14.here hx rfl (hb hby d7_31) rfl rfl ?_
    show Steps p.tables e below (T14.setTop (mkF m 32 #[rv ar, iv (6 : Int32), rv b2] [(.ref b2)])) _
    exact retOut X14 hx Bd.returns rfl (Or.inr (Or.inr (Or.inr (Or.inr ⟨rfl, rfl, rfl⟩)))) (hb hby d7_32) hr
  · show Q_rm_cg3 Z _ _ _ _ h0 n0 _ T14.heap _
    rw [e14]
    exact ⟨b2, rfl, N14, (K15), bz5, f16⟩
theorem ef_rm_cs0 (m : MethodId) (x0 : Addr) (x1 : Int32) : entryFrame m #[(.ref x0), (.int x1)] 3 = mkF m 0 #[rv x0, iv x1, .unset] [] := by first | (simp [entryFrame, mkF, argsToLocals, Value.category]; done) | rfl
def Q_rm_cs0 (Z : State) (ar : Addr) (ln : Int32) (h0 : Heap) (n0 : Nat) (v : Option Value) (h : Heap) (L : List Loc) : Prop := ∃ (b : Addr), v = some (.ref b) ∧ Fr n0 L ∧ Keep h0 h [] ∧ (h0.size ≤ b) ∧ (Av Z h b .byte (0 : Int32) [] (.int (0 : Int32)))
set_option maxRecDepth 65536 in
set_option maxHeartbeats 40000000 in
theorem rm_cs0 (l : Launch) (Z : State) (a0 : Array Value) (hw : ∀ d ∈ tables_1, d.before a0 Z = true) (ws : List Jvm.Cond) (ar : Addr) (ln : Int32) (h0 : Heap) (n0 : Nat) (Z0 : n0 ≤ h0.size) (pf_X_ar : Px Z h0 ar .byte ln []) (hle : (0 : Int32).toInt ≤ ln.toInt) (hne : ¬ ((0 : Int32) = ln)) :
    MetFree l (⟨"java/util/Arrays", "copyOf", "([BI)[B"⟩ : MethodName) (head1 (Jvm.Cond.code (⟨"java/util/Arrays", "copyOf", "([BI)[B"⟩ : MethodName) jdk_65_method_121_code 3 (some (.array .byte)) :: ws) ({ frames := 1, cells := 1, slots := 0, locals := 18 } : Room)) (fun a U => a = #[(.ref ar), (.int (0 : Int32))] ∧ Z.Warmed39 U.vm ∧ U.heap = h0) (fun _ _ _ _ _ => True) (fun _ U o U' => ∃ v L, o = .returned v ∧ Q_rm_cs0 Z ar ln h0 n0 v U'.heap L ∧ FrameEnd U o U' L ({ frames := 1, cells := 1, slots := 0, locals := 18 } : Room).cells ({ frames := 1, cells := 1, slots := 0, locals := 18 } : Room).slots) := by
  refine MetFree.of_bodySF (plainFor_of_name pn_java_util_Arrays) hisR ?_
  intro p e s m args below meth c s₁ Bd hml0 hP hK
  obtain ⟨rfl, hZ, hh⟩ := hP
  have hx := Bd.exec
  have hby := Bd.bytes
  have hml : c.maxLocals = 3 := hml0
  have hown : s.vm.findClass "java/util/Arrays" = some m.cls := findClass_of_methodNamed Bd.named
  have hnm := (name_of_methodNamed Bd.named Bd.method).1
  have X0 : Stand p l e ({ frames := 1, cells := 1, slots := 0, locals := 18 } : Room) s m #[(.ref ar), (.int (0 : Int32))] below meth c s₁ [] 0 0 := Stand.of_body Bd
  have e0 : s₁.heap = h0 := by rw [← hh, Bd.state]; rfl
  have N0 := Fr.nil n0
  have pre0 : ∀ t, Steps p.tables e below (s₁.setTop (mkF m 0 #[rv ar, iv (0 : Int32), .unset] [])) t → Steps p.tables e below (s₁.setTop (entryFrame m #[(.ref ar), (.int (0 : Int32))] 3)) t := fun t k => castTop (ef_rm_cs0 m ar (0 : Int32)) k
  have wo13 := hw _ (List.mem_of_getElem? (i := 13) rfl)
  have wo15 := hw _ (List.mem_of_getElem? (i := 15) rfl)
  have wo36 := hw _ (List.mem_of_getElem? (i := 36) rfl)
  have wo37 := hw _ (List.mem_of_getElem? (i := 37) rfl)
  have wo38 := hw _ (List.mem_of_getElem? (i := 38) rfl)
  have wo39 := hw _ (List.mem_of_getElem? (i := 39) rfl)
  have wo40 := hw _ (List.mem_of_getElem? (i := 40) rfl)
  have wo41 := hw _ (List.mem_of_getElem? (i := 41) rfl)
  have wo42 := hw _ (List.mem_of_getElem? (i := 42) rfl)
  obtain ⟨re1, kk1, cl1, Ar1, qq1, Sz1, Nn1, Hs1, Gf1⟩ := id pf_X_ar
  obtain ⟨T2, h2, k2, X2, e2, E2, A2, st2⟩ := newP (aty := .byte) X0 hx hZ wo15 e0 (g := (mkF m 15 #[rv ar, iv (0 : Int32), .unset] [(.int (0 : Int32))])) rfl (hb hby d7_15) rfl (by decide) (cap := 0) (by decide) (by decide) (by decide) (by decide)
  obtain ⟨b2, gg2⟩ : ∃ z, z = h0.size := ⟨_, rfl⟩
  rw [← gg2] at A2 st2
  have ne3 : ar ≠ b2 := Nat.ne_of_lt (Nat.lt_of_lt_of_le pf_X_ar.lt (Nat.le_of_eq gg2.symm))
  have g4 : n0 ≤ b2 := Nat.le_trans Z0 (Nat.le_of_eq gg2.symm)
  have bz5 : h0.size ≤ b2 := Nat.le_trans (Keep.refl h0 []).1 (Nat.le_of_eq gg2.symm)
  have K7 : Keep h0 h2 [] := (Keep.refl h0 []).ext E2
  have f6 : Av Z h2 b2 .byte (0 : Int32) [] (.int (0 : Int32)) := ⟨_, (Arv.new A2 (by decide)).pad (pad_rep [] (.int (0 : Int32)) 0)⟩
  have f8 := (pf_X_ar.ext E2)
  obtain ⟨re9, kk9, cl9, Ar9, qq9, Sz9, Nn9, Hs9, Gf9⟩ := id f8
  have f11 := (Nat.le_trans Z0 E2.1)
  obtain ⟨_, _, ⟨T10, L10, k10, n10⟩, -, X10, ⟨Lc10, hQ10, l10, y10, z10⟩, st10⟩ := Jvm.LawKit.callS X2 hx (y := MN8) hown (mvT hZ wo36) (mvT hZ wo37) (mvT hZ wo13) (mvT hZ wo38) (by decide) (backOf (W := 4) (rm8 l Z a0 hw [] ln (0 : Int32) h2 n0 f11 ) hZ wo38 wo13 (by decide) (by decide)) (g := (mkF m 25 #[rv ar, iv (0 : Int32), rv b2] [(.int (0 : Int32)), (.int ln), (.int (0 : Int32)), (.ref b2), (.int (0 : Int32)), (.ref ar)])) rfl (by rw [hml]; rfl) (argsL := [(.int ln), (.int (0 : Int32))]) (rest := [(.int (0 : Int32)), (.ref b2), (.int (0 : Int32)), (.ref ar)]) (lenOf pd_3 rfl) rfl (by show 2 * 0 + _ ≤ _; exact Nat.le_of_eq rfl) (hb hby d7_25) (fun _ _ => ⟨rfl, e2, (by decide : 1 + 0 ≤ _), (by decide : 0 + 0 ≤ _)⟩)
  dsimp only [Pt.U, Pt.locs, Pt.cells, Pt.slots] at X10 l10 y10 z10 st10 hQ10
  rw [l10, y10, z10] at X10
  obtain ⟨rfl, N10q, K10q⟩ := hQ10
  have N12 := Fr.app N0 N10q
  have q13 : (if (0 : Int32) < ln then (0 : Int32) else ln) = (0 : Int32) := if_pos (own_lt _ _ hle hne)
  obtain ⟨rs14, ks14, As14⟩ := id f8
  obtain ⟨kd14, Bd14⟩ := id f6
  obtain ⟨T14, h14, L14, X14, e14, N14, K14c, V14, st14⟩ := cpA X10 hx hZ hown wo39 wo42 wo40 wo41 K10q As14 Bd14 (Or.inl ⟨rfl, rfl⟩) (sp := (0 : Int32)) (dp := (0 : Int32)) (nn := (0 : Int32)) (us := []) (by decide) (by decide) (by decide) (own_h4 _ _ hle (by decide)) (by decide) rfl (by decide) N12 g4 (g := (mkF m 28 #[rv ar, iv (0 : Int32), rv b2] [(.int (0 : Int32)), (.int (0 : Int32)), (.ref b2), (.int (0 : Int32)), (.ref ar)])) rfl (by rw [hml]; rfl) rfl (hb hby d7_28) (by decide) (W := 0) (by show 2 * 0 + _ ≤ _; exact Nat.le_of_eq rfl) (by decide +kernel)
  have K15 : Keep h0 h14 [] := (K7).trans K14c (allS (P := fun x => x ∈ [] ∨ h0.size ≤ x) (Or.inr bz5) all0)
  have f16 : Av Z h14 b2 .byte (0 : Int32) [] (.int (0 : Int32)) := ⟨_, V14⟩
  obtain ⟨fs, hr, hrun, hended, hW, hsame⟩ := X14.leave (v := some (.ref b2)) (fun h => by rw [Bd.returns] at h; cases h)
  refine ⟨_, _, pre0 _ ?_, hrun, hended, _, _, rfl, ?_, ⟨_, rfl⟩, hW, hsame.mono (by decide) (by decide)⟩
  · show Steps p.tables e below (s₁.setTop (mkF m 0 #[rv ar, iv (0 : Int32), .unset] [])) _
    refine XS.iloadN X0.here hx rfl (hb hby d7_0) rfl ?_
    show Steps p.tables e below (s₁.setTop (mkF m 1 #[rv ar, iv (0 : Int32), .unset] [(.int (0 : Int32))])) _
    refine XS.aloadN X0.here hx rfl (hb hby d7_1) rfl rfl ?_
    show Steps p.tables e below (s₁.setTop (mkF m 2 #[rv ar, iv (0 : Int32), .unset] [(.ref ar), (.int (0 : Int32))])) _
    refine X0.arraylength hx (by rw [e0]; exact Ar1.1) (State.isArrayOf_alike hZ.alike Ar1.2.1) (g := (mkF m 2 #[rv ar, iv (0 : Int32), .unset] [(.ref ar), (.int (0 : Int32))])) rfl rfl (hb hby d7_2) _ ?_
    rw [len_of Sz1 Nn1]
    show Steps p.tables e below (s₁.setTop (mkF m 3 #[rv ar, iv (0 : Int32), .unset] [(.int ln), (.int (0 : Int32))])) _
    refine XS.icmpYes X0.here hx rfl (pc0 := 3) (pc' := 14) rfl (hb hby d7_3) rfl (feq hne).2 (by decide) (by decide) ?_
    refine XS.iloadN X0.here hx rfl (hb hby d7_14) rfl ?_
    show Steps p.tables e below (s₁.setTop (mkF m 15 #[rv ar, iv (0 : Int32), .unset] [(.int (0 : Int32))])) _
    refine st2 _ ?_
    show Steps p.tables e below (T2.setTop (mkF m 17 #[rv ar, iv (0 : Int32), .unset] [(.ref b2)])) _
    refine XS.astoreN X2.here hx rfl (hb hby d7_17) rfl rfl (l' := #[rv ar, iv (0 : Int32), rv b2]) rfl ?_
    refine XS.aloadN X2.here hx rfl (hb hby d7_18) rfl rfl ?_
    refine XS.iconst X2.here hx rfl (hb hby d7_19) ?_
    show Steps p.tables e below (T2.setTop (mkF m 20 #[rv ar, iv (0 : Int32), rv b2] [(.int (0 : Int32)), (.ref ar)])) _
    refine XS.aloadN X2.here hx rfl (hb hby d7_20) rfl rfl ?_
    refine XS.iconst X2.here hx rfl (hb hby d7_21) ?_
    refine XS.aloadN X2.here hx rfl (hb hby d7_22) rfl rfl ?_
    show Steps p.tables e below (T2.setTop (mkF m 23 #[rv ar, iv (0 : Int32), rv b2] [(.ref ar), (.int (0 : Int32)), (.ref b2), (.int (0 : Int32)), (.ref ar)])) _
    refine X2.arraylength hx (by rw [e2]; exact Ar9.1) (State.isArrayOf_alike hZ.alike Ar9.2.1) (g := (mkF m 23 #[rv ar, iv (0 : Int32), rv b2] [(.ref ar), (.int (0 : Int32)), (.ref b2), (.int (0 : Int32)), (.ref ar)])) rfl rfl (hb hby d7_23) _ ?_
    rw [len_of Sz9 Nn9]
    show Steps p.tables e below (T2.setTop (mkF m 24 #[rv ar, iv (0 : Int32), rv b2] [(.int ln), (.int (0 : Int32)), (.ref b2), (.int (0 : Int32)), (.ref ar)])) _
    refine XS.iloadN X2.here hx rfl (hb hby d7_24) rfl ?_
    show Steps p.tables e below (T2.setTop (mkF m 25 #[rv ar, iv (0 : Int32), rv b2] [(.int (0 : Int32)), (.int ln), (.int (0 : Int32)), (.ref b2), (.int (0 : Int32)), (.ref ar)])) _
    refine st10 _ ?_
    show Steps p.tables e below (T10.setTop (mkF m 28 #[rv ar, iv (0 : Int32), rv b2] [(.int (if (0 : Int32) < ln then (0 : Int32) else ln)), (.int (0 : Int32)), (.ref b2), (.int (0 : Int32)), (.ref ar)])) _
    rw [q13]
    show Steps p.tables e below (T10.setTop (mkF m 28 #[rv ar, iv (0 : Int32), rv b2] [(.int (0 : Int32)), (.int (0 : Int32)), (.ref b2), (.int (0 : Int32)), (.ref ar)])) _
    show Steps p.tables e below (T10.setTop (mkF m 28 #[rv ar, iv (0 : Int32), rv b2] [(.int (0 : Int32)), (.int (0 : Int32)), (.ref b2), (.int (0 : Int32)), (.ref ar)])) _
    refine st14 _ ?_
    show Steps p.tables e below (T14.setTop (mkF m 31 #[rv ar, iv (0 : Int32), rv b2] [])) _
    refine XS.aloadN X14.here hx rfl (hb hby d7_31) rfl rfl ?_
    show Steps p.tables e below (T14.setTop (mkF m 32 #[rv ar, iv (0 : Int32), rv b2] [(.ref b2)])) _
    exact retOut X14 hx Bd.returns rfl (Or.inr (Or.inr (Or.inr (Or.inr ⟨rfl, rfl, rfl⟩)))) (hb hby d7_32) hr
  · show Q_rm_cs0 Z _ _ h0 n0 _ T14.heap _
    rw [e14]
    exact ⟨b2, rfl, N14, (K15), bz5, f16⟩
theorem ef_rm_cs1 (m : MethodId) (x0 : Addr) (x1 : Int32) : entryFrame m #[(.ref x0), (.int x1)] 3 = mkF m 0 #[rv x0, iv x1, .unset] [] := by first | (simp [entryFrame, mkF, argsToLocals, Value.category]; done) | rfl
def Q_rm_cs1 (Z : State) (ar : Addr) (ln : Int32) (x0 : Int32) (h0 : Heap) (n0 : Nat) (v : Option Value) (h : Heap) (L : List Loc) : Prop := ∃ (b : Addr), v = some (.ref b) ∧ Fr n0 L ∧ Keep h0 h [] ∧ (h0.size ≤ b) ∧ (Av Z h b .byte (1 : Int32) [(.int x0)] (.int (0 : Int32)))
set_option maxRecDepth 65536 in
set_option maxHeartbeats 40000000 in
theorem rm_cs1 (l : Launch) (Z : State) (a0 : Array Value) (hw : ∀ d ∈ tables_1, d.before a0 Z = true) (ws : List Jvm.Cond) (ar : Addr) (ln : Int32) (x0 : Int32) (h0 : Heap) (n0 : Nat) (Z0 : n0 ≤ h0.size) (pf_X_ar : Px Z h0 ar .byte ln [(.int x0)]) (hle : (1 : Int32).toInt ≤ ln.toInt) (hne : ¬ ((1 : Int32) = ln)) :
    MetFree l (⟨"java/util/Arrays", "copyOf", "([BI)[B"⟩ : MethodName) (head1 (Jvm.Cond.code (⟨"java/util/Arrays", "copyOf", "([BI)[B"⟩ : MethodName) jdk_65_method_121_code 3 (some (.array .byte)) :: ws) ({ frames := 1, cells := 1, slots := 1, locals := 18 } : Room)) (fun a U => a = #[(.ref ar), (.int (1 : Int32))] ∧ Z.Warmed39 U.vm ∧ U.heap = h0) (fun _ _ _ _ _ => True) (fun _ U o U' => ∃ v L, o = .returned v ∧ Q_rm_cs1 Z ar ln x0 h0 n0 v U'.heap L ∧ FrameEnd U o U' L ({ frames := 1, cells := 1, slots := 1, locals := 18 } : Room).cells ({ frames := 1, cells := 1, slots := 1, locals := 18 } : Room).slots) := by
  refine MetFree.of_bodySF (plainFor_of_name pn_java_util_Arrays) hisR ?_
  intro p e s m args below meth c s₁ Bd hml0 hP hK
  obtain ⟨rfl, hZ, hh⟩ := hP
  have hx := Bd.exec
  have hby := Bd.bytes
  have hml : c.maxLocals = 3 := hml0
  have hown : s.vm.findClass "java/util/Arrays" = some m.cls := findClass_of_methodNamed Bd.named
  have hnm := (name_of_methodNamed Bd.named Bd.method).1
  have X0 : Stand p l e ({ frames := 1, cells := 1, slots := 1, locals := 18 } : Room) s m #[(.ref ar), (.int (1 : Int32))] below meth c s₁ [] 0 0 := Stand.of_body Bd
  have e0 : s₁.heap = h0 := by rw [← hh, Bd.state]; rfl
  have N0 := Fr.nil n0
  have pre0 : ∀ t, Steps p.tables e below (s₁.setTop (mkF m 0 #[rv ar, iv (1 : Int32), .unset] [])) t → Steps p.tables e below (s₁.setTop (entryFrame m #[(.ref ar), (.int (1 : Int32))] 3)) t := fun t k => castTop (ef_rm_cs1 m ar (1 : Int32)) k
  have wo13 := hw _ (List.mem_of_getElem? (i := 13) rfl)
  have wo15 := hw _ (List.mem_of_getElem? (i := 15) rfl)
  have wo36 := hw _ (List.mem_of_getElem? (i := 36) rfl)
  have wo37 := hw _ (List.mem_of_getElem? (i := 37) rfl)
  have wo38 := hw _ (List.mem_of_getElem? (i := 38) rfl)
  have wo39 := hw _ (List.mem_of_getElem? (i := 39) rfl)
  have wo40 := hw _ (List.mem_of_getElem? (i := 40) rfl)
  have wo41 := hw _ (List.mem_of_getElem? (i := 41) rfl)
  have wo42 := hw _ (List.mem_of_getElem? (i := 42) rfl)
  obtain ⟨re1, kk1, cl1, Ar1, qq1, Sz1, Nn1, Hs1, Gf1⟩ := id pf_X_ar
  obtain ⟨T2, h2, k2, X2, e2, E2, A2, st2⟩ := newP (aty := .byte) X0 hx hZ wo15 e0 (g := (mkF m 15 #[rv ar, iv (1 : Int32), .unset] [(.int (1 : Int32))])) rfl (hb hby d7_15) rfl (by decide) (cap := 1) (by decide) (by decide) (by decide) (by decide)
  obtain ⟨b2, gg2⟩ : ∃ z, z = h0.size := ⟨_, rfl⟩
  rw [← gg2] at A2 st2
  have ne3 : ar ≠ b2 := Nat.ne_of_lt (Nat.lt_of_lt_of_le pf_X_ar.lt (Nat.le_of_eq gg2.symm))
  have g4 : n0 ≤ b2 := Nat.le_trans Z0 (Nat.le_of_eq gg2.symm)
  have bz5 : h0.size ≤ b2 := Nat.le_trans (Keep.refl h0 []).1 (Nat.le_of_eq gg2.symm)
  have K7 : Keep h0 h2 [] := (Keep.refl h0 []).ext E2
  have f6 : Av Z h2 b2 .byte (1 : Int32) [(.int (0 : Int32))] (.int (0 : Int32)) := ⟨_, (Arv.new A2 (by decide)).pad (pad_rep [] (.int (0 : Int32)) 1)⟩
  have f8 := (pf_X_ar.ext E2)
  obtain ⟨re9, kk9, cl9, Ar9, qq9, Sz9, Nn9, Hs9, Gf9⟩ := id f8
  have f11 := (Nat.le_trans Z0 E2.1)
  obtain ⟨_, _, ⟨T10, L10, k10, n10⟩, -, X10, ⟨Lc10, hQ10, l10, y10, z10⟩, st10⟩ := Jvm.LawKit.callS X2 hx (y := MN8) hown (mvT hZ wo36) (mvT hZ wo37) (mvT hZ wo13) (mvT hZ wo38) (by decide) (backOf (W := 4) (rm8 l Z a0 hw [] ln (1 : Int32) h2 n0 f11 ) hZ wo38 wo13 (by decide) (by decide)) (g := (mkF m 25 #[rv ar, iv (1 : Int32), rv b2] [(.int (1 : Int32)), (.int ln), (.int (0 : Int32)), (.ref b2), (.int (0 : Int32)), (.ref ar)])) rfl (by rw [hml]; rfl) (argsL := [(.int ln), (.int (1 : Int32))]) (rest := [(.int (0 : Int32)), (.ref b2), (.int (0 : Int32)), (.ref ar)]) (lenOf pd_3 rfl) rfl (by show 2 * 0 + _ ≤ _; exact Nat.le_of_eq rfl) (hb hby d7_25) (fun _ _ => ⟨rfl, e2, (by decide : 1 + 0 ≤ _), (by decide : 1 + 0 ≤ _)⟩)
  dsimp only [Pt.U, Pt.locs, Pt.cells, Pt.slots] at X10 l10 y10 z10 st10 hQ10
  rw [l10, y10, z10] at X10
  obtain ⟨rfl, N10q, K10q⟩ := hQ10
  have N12 := Fr.app N0 N10q
  have q13 : (if (1 : Int32) < ln then (1 : Int32) else ln) = (1 : Int32) := if_pos (own_lt _ _ hle hne)
  obtain ⟨rs14, ks14, As14⟩ := id f8
  obtain ⟨kd14, Bd14⟩ := id f6
  obtain ⟨T14, h14, L14, X14, e14, N14, K14c, V14, st14⟩ := cpA X10 hx hZ hown wo39 wo42 wo40 wo41 K10q As14 Bd14 (Or.inl ⟨rfl, rfl⟩) (sp := (0 : Int32)) (dp := (0 : Int32)) (nn := (1 : Int32)) (us := [(.int x0)]) (by decide) (by decide) (by decide) (own_h4 _ _ hle (by decide)) (by decide) rfl (by decide) N12 g4 (g := (mkF m 28 #[rv ar, iv (1 : Int32), rv b2] [(.int (1 : Int32)), (.int (0 : Int32)), (.ref b2), (.int (0 : Int32)), (.ref ar)])) rfl (by rw [hml]; rfl) rfl (hb hby d7_28) (by decide) (W := 0) (by show 2 * 0 + _ ≤ _; exact Nat.le_of_eq rfl) (by decide +kernel)
  have K15 : Keep h0 h14 [] := (K7).trans K14c (allS (P := fun x => x ∈ [] ∨ h0.size ≤ x) (Or.inr bz5) all0)
  have f16 : Av Z h14 b2 .byte (1 : Int32) [(.int x0)] (.int (0 : Int32)) := ⟨_, V14⟩
  obtain ⟨fs, hr, hrun, hended, hW, hsame⟩ := X14.leave (v := some (.ref b2)) (fun h => by rw [Bd.returns] at h; cases h)
  refine ⟨_, _, pre0 _ ?_, hrun, hended, _, _, rfl, ?_, ⟨_, rfl⟩, hW, hsame.mono (by decide) (by decide)⟩
  · show Steps p.tables e below (s₁.setTop (mkF m 0 #[rv ar, iv (1 : Int32), .unset] [])) _
    refine XS.iloadN X0.here hx rfl (hb hby d7_0) rfl ?_
    show Steps p.tables e below (s₁.setTop (mkF m 1 #[rv ar, iv (1 : Int32), .unset] [(.int (1 : Int32))])) _
    refine XS.aloadN X0.here hx rfl (hb hby d7_1) rfl rfl ?_
    show Steps p.tables e below (s₁.setTop (mkF m 2 #[rv ar, iv (1 : Int32), .unset] [(.ref ar), (.int (1 : Int32))])) _
    refine X0.arraylength hx (by rw [e0]; exact Ar1.1) (State.isArrayOf_alike hZ.alike Ar1.2.1) (g := (mkF m 2 #[rv ar, iv (1 : Int32), .unset] [(.ref ar), (.int (1 : Int32))])) rfl rfl (hb hby d7_2) _ ?_
    rw [len_of Sz1 Nn1]
    show Steps p.tables e below (s₁.setTop (mkF m 3 #[rv ar, iv (1 : Int32), .unset] [(.int ln), (.int (1 : Int32))])) _
    refine XS.icmpYes X0.here hx rfl (pc0 := 3) (pc' := 14) rfl (hb hby d7_3) rfl (feq hne).2 (by decide) (by decide) ?_
    refine XS.iloadN X0.here hx rfl (hb hby d7_14) rfl ?_
    show Steps p.tables e below (s₁.setTop (mkF m 15 #[rv ar, iv (1 : Int32), .unset] [(.int (1 : Int32))])) _
    refine st2 _ ?_
    show Steps p.tables e below (T2.setTop (mkF m 17 #[rv ar, iv (1 : Int32), .unset] [(.ref b2)])) _
    refine XS.astoreN X2.here hx rfl (hb hby d7_17) rfl rfl (l' := #[rv ar, iv (1 : Int32), rv b2]) rfl ?_
    refine XS.aloadN X2.here hx rfl (hb hby d7_18) rfl rfl ?_
    refine XS.iconst X2.here hx rfl (hb hby d7_19) ?_
    show Steps p.tables e below (T2.setTop (mkF m 20 #[rv ar, iv (1 : Int32), rv b2] [(.int (0 : Int32)), (.ref ar)])) _
    refine XS.aloadN X2.here hx rfl (hb hby d7_20) rfl rfl ?_
    refine XS.iconst X2.here hx rfl (hb hby d7_21) ?_
    refine XS.aloadN X2.here hx rfl (hb hby d7_22) rfl rfl ?_
    show Steps p.tables e below (T2.setTop (mkF m 23 #[rv ar, iv (1 : Int32), rv b2] [(.ref ar), (.int (0 : Int32)), (.ref b2), (.int (0 : Int32)), (.ref ar)])) _
    refine X2.arraylength hx (by rw [e2]; exact Ar9.1) (State.isArrayOf_alike hZ.alike Ar9.2.1) (g := (mkF m 23 #[rv ar, iv (1 : Int32), rv b2] [(.ref ar), (.int (0 : Int32)), (.ref b2), (.int (0 : Int32)), (.ref ar)])) rfl rfl (hb hby d7_23) _ ?_
    rw [len_of Sz9 Nn9]
    show Steps p.tables e below (T2.setTop (mkF m 24 #[rv ar, iv (1 : Int32), rv b2] [(.int ln), (.int (0 : Int32)), (.ref b2), (.int (0 : Int32)), (.ref ar)])) _
    refine XS.iloadN X2.here hx rfl (hb hby d7_24) rfl ?_
    show Steps p.tables e below (T2.setTop (mkF m 25 #[rv ar, iv (1 : Int32), rv b2] [(.int (1 : Int32)), (.int ln), (.int (0 : Int32)), (.ref b2), (.int (0 : Int32)), (.ref ar)])) _
    refine st10 _ ?_
    show Steps p.tables e below (T10.setTop (mkF m 28 #[rv ar, iv (1 : Int32), rv b2] [(.int (if (1 : Int32) < ln then (1 : Int32) else ln)), (.int (0 : Int32)), (.ref b2), (.int (0 : Int32)), (.ref ar)])) _
    rw [q13]
    show Steps p.tables e below (T10.setTop (mkF m 28 #[rv ar, iv (1 : Int32), rv b2] [(.int (1 : Int32)), (.int (0 : Int32)), (.ref b2), (.int (0 : Int32)), (.ref ar)])) _
    show Steps p.tables e below (T10.setTop (mkF m 28 #[rv ar, iv (1 : Int32), rv b2] [(.int (1 : Int32)), (.int (0 : Int32)), (.ref b2), (.int (0 : Int32)), (.ref ar)])) _
    refine st14 _ ?_
    show Steps p.tables e below (T14.setTop (mkF m 31 #[rv ar, iv (1 : Int32), rv b2] [])) _
    refine XS.aloadN X14.here hx rfl (hb hby d7_31) rfl rfl ?_
    show Steps p.tables e below (T14.setTop (mkF m 32 #[rv ar, iv (1 : Int32), rv b2] [(.ref b2)])) _
    exact retOut X14 hx Bd.returns rfl (Or.inr (Or.inr (Or.inr (Or.inr ⟨rfl, rfl, rfl⟩)))) (hb hby d7_32) hr
  · show Q_rm_cs1 Z _ _ _ h0 n0 _ T14.heap _
    rw [e14]
    exact ⟨b2, rfl, N14, (K15), bz5, f16⟩
theorem ef_rm_cs2 (m : MethodId) (x0 : Addr) (x1 : Int32) : entryFrame m #[(.ref x0), (.int x1)] 3 = mkF m 0 #[rv x0, iv x1, .unset] [] := by first | (simp [entryFrame, mkF, argsToLocals, Value.category]; done) | rfl
def Q_rm_cs2 (Z : State) (ar : Addr) (ln : Int32) (x0 : Int32) (x1 : Int32) (h0 : Heap) (n0 : Nat) (v : Option Value) (h : Heap) (L : List Loc) : Prop := ∃ (b : Addr), v = some (.ref b) ∧ Fr n0 L ∧ Keep h0 h [] ∧ (h0.size ≤ b) ∧ (Av Z h b .byte (2 : Int32) [(.int x0), (.int x1)] (.int (0 : Int32)))
set_option maxRecDepth 65536 in
set_option maxHeartbeats 40000000 in
theorem rm_cs2 (l : Launch) (Z : State) (a0 : Array Value) (hw : ∀ d ∈ tables_1, d.before a0 Z = true) (ws : List Jvm.Cond) (ar : Addr) (ln : Int32) (x0 : Int32) (x1 : Int32) (h0 : Heap) (n0 : Nat) (Z0 : n0 ≤ h0.size) (pf_X_ar : Px Z h0 ar .byte ln [(.int x0), (.int x1)]) (hle : (2 : Int32).toInt ≤ ln.toInt) (hne : ¬ ((2 : Int32) = ln)) :
    MetFree l (⟨"java/util/Arrays", "copyOf", "([BI)[B"⟩ : MethodName) (head1 (Jvm.Cond.code (⟨"java/util/Arrays", "copyOf", "([BI)[B"⟩ : MethodName) jdk_65_method_121_code 3 (some (.array .byte)) :: ws) ({ frames := 1, cells := 1, slots := 2, locals := 18 } : Room)) (fun a U => a = #[(.ref ar), (.int (2 : Int32))] ∧ Z.Warmed39 U.vm ∧ U.heap = h0) (fun _ _ _ _ _ => True) (fun _ U o U' => ∃ v L, o = .returned v ∧ Q_rm_cs2 Z ar ln x0 x1 h0 n0 v U'.heap L ∧ FrameEnd U o U' L ({ frames := 1, cells := 1, slots := 2, locals := 18 } : Room).cells ({ frames := 1, cells := 1, slots := 2, locals := 18 } : Room).slots) := by
  refine MetFree.of_bodySF (plainFor_of_name pn_java_util_Arrays) hisR ?_
  intro p e s m args below meth c s₁ Bd hml0 hP hK
  obtain ⟨rfl, hZ, hh⟩ := hP
  have hx := Bd.exec
  have hby := Bd.bytes
  have hml : c.maxLocals = 3 := hml0
  have hown : s.vm.findClass "java/util/Arrays" = some m.cls := findClass_of_methodNamed Bd.named
  have hnm := (name_of_methodNamed Bd.named Bd.method).1
  have X0 : Stand p l e ({ frames := 1, cells := 1, slots := 2, locals := 18 } : Room) s m #[(.ref ar), (.int (2 : Int32))] below meth c s₁ [] 0 0 := Stand.of_body Bd
  have e0 : s₁.heap = h0 := by rw [← hh, Bd.state]; rfl
  have N0 := Fr.nil n0
  have pre0 : ∀ t, Steps p.tables e below (s₁.setTop (mkF m 0 #[rv ar, iv (2 : Int32), .unset] [])) t → Steps p.tables e below (s₁.setTop (entryFrame m #[(.ref ar), (.int (2 : Int32))] 3)) t := fun t k => castTop (ef_rm_cs2 m ar (2 : Int32)) k
  have wo13 := hw _ (List.mem_of_getElem? (i := 13) rfl)
  have wo15 := hw _ (List.mem_of_getElem? (i := 15) rfl)
  have wo36 := hw _ (List.mem_of_getElem? (i := 36) rfl)
  have wo37 := hw _ (List.mem_of_getElem? (i := 37) rfl)
  have wo38 := hw _ (List.mem_of_getElem? (i := 38) rfl)
  have wo39 := hw _ (List.mem_of_getElem? (i := 39) rfl)
  have wo40 := hw _ (List.mem_of_getElem? (i := 40) rfl)
  have wo41 := hw _ (List.mem_of_getElem? (i := 41) rfl)
  have wo42 := hw _ (List.mem_of_getElem? (i := 42) rfl)
  obtain ⟨re1, kk1, cl1, Ar1, qq1, Sz1, Nn1, Hs1, Gf1⟩ := id pf_X_ar
  obtain ⟨T2, h2, k2, X2, e2, E2, A2, st2⟩ := newP (aty := .byte) X0 hx hZ wo15 e0 (g := (mkF m 15 #[rv ar, iv (2 : Int32), .unset] [(.int (2 : Int32))])) rfl (hb hby d7_15) rfl (by decide) (cap := 2) (by decide) (by decide) (by decide) (by decide)
  obtain ⟨b2, gg2⟩ : ∃ z, z = h0.size := ⟨_, rfl⟩
  rw [← gg2] at A2 st2
  have ne3 : ar ≠ b2 := Nat.ne_of_lt (Nat.lt_of_lt_of_le pf_X_ar.lt (Nat.le_of_eq gg2.symm))
  have g4 : n0 ≤ b2 := Nat.le_trans Z0 (Nat.le_of_eq gg2.symm)
  have bz5 : h0.size ≤ b2 := Nat.le_trans (Keep.refl h0 []).1 (Nat.le_of_eq gg2.symm)
  have K7 : Keep h0 h2 [] := (Keep.refl h0 []).ext E2
  have f6 : Av Z h2 b2 .byte (2 : Int32) [(.int (0 : Int32)), (.int (0 : Int32))] (.int (0 : Int32)) := ⟨_, (Arv.new A2 (by decide)).pad (pad_rep [] (.int (0 : Int32)) 2)⟩
  have f8 := (pf_X_ar.ext E2)
  obtain ⟨re9, kk9, cl9, Ar9, qq9, Sz9, Nn9, Hs9, Gf9⟩ := id f8
  have f11 := (Nat.le_trans Z0 E2.1)
  obtain ⟨_, _, ⟨T10, L10, k10, n10⟩, -, X10, ⟨Lc10, hQ10, l10, y10, z10⟩, st10⟩ := Jvm.LawKit.callS X2 hx (y := MN8) hown (mvT hZ wo36) (mvT hZ wo37) (mvT hZ wo13) (mvT hZ wo38) (by decide) (backOf (W := 4) (rm8 l Z a0 hw [] ln (2 : Int32) h2 n0 f11 ) hZ wo38 wo13 (by decide) (by decide)) (g := (mkF m 25 #[rv ar, iv (2 : Int32), rv b2] [(.int (2 : Int32)), (.int ln), (.int (0 : Int32)), (.ref b2), (.int (0 : Int32)), (.ref ar)])) rfl (by rw [hml]; rfl) (argsL := [(.int ln), (.int (2 : Int32))]) (rest := [(.int (0 : Int32)), (.ref b2), (.int (0 : Int32)), (.ref ar)]) (lenOf pd_3 rfl) rfl (by show 2 * 0 + _ ≤ _; exact Nat.le_of_eq rfl) (hb hby d7_25) (fun _ _ => ⟨rfl, e2, (by decide : 1 + 0 ≤ _), (by decide : 2 + 0 ≤ _)⟩)
  dsimp only [Pt.U, Pt.locs, Pt.cells, Pt.slots] at X10 l10 y10 z10 st10 hQ10
  rw [l10, y10, z10] at X10
  obtain ⟨rfl, N10q, K10q⟩ := hQ10
  have N12 := Fr.app N0 N10q
  have q13 : (if (2 : Int32) < ln then (2 : Int32) else ln) = (2 : Int32) := if_pos (own_lt _ _ hle hne)
  obtain ⟨rs14, ks14, As14⟩ := id f8
  obtain ⟨kd14, Bd14⟩ := id f6
  obtain ⟨T14, h14, L14, X14, e14, N14, K14c, V14, st14⟩ := cpA X10 hx hZ hown wo39 wo42 wo40 wo41 K10q As14 Bd14 (Or.inl ⟨rfl, rfl⟩) (sp := (0 : Int32)) (dp := (0 : Int32)) (nn := (2 : Int32)) (us := [(.int x0), (.int x1)]) (by decide) (by decide) (by decide) (own_h4 _ _ hle (by decide)) (by decide) rfl (by decide) N12 g4 (g := (mkF m 28 #[rv ar, iv (2 : Int32), rv b2] [(.int (2 : Int32)), (.int (0 : Int32)), (.ref b2), (.int (0 : Int32)), (.ref ar)])) rfl (by rw [hml]; rfl) rfl (hb hby d7_28) (by decide) (W := 0) (by show 2 * 0 + _ ≤ _; exact Nat.le_of_eq rfl) (by decide +kernel)
  have K15 : Keep h0 h14 [] := (K7).trans K14c (allS (P := fun x => x ∈ [] ∨ h0.size ≤ x) (Or.inr bz5) all0)
  have f16 : Av Z h14 b2 .byte (2 : Int32) [(.int x0), (.int x1)] (.int (0 : Int32)) := ⟨_, V14⟩
  obtain ⟨fs, hr, hrun, hended, hW, hsame⟩ := X14.leave (v := some (.ref b2)) (fun h => by rw [Bd.returns] at h; cases h)
  refine ⟨_, _, pre0 _ ?_, hrun, hended, _, _, rfl, ?_, ⟨_, rfl⟩, hW, hsame.mono (by decide) (by decide)⟩
  · show Steps p.tables e below (s₁.setTop (mkF m 0 #[rv ar, iv (2 : Int32), .unset] [])) _
    refine XS.iloadN X0.here hx rfl (hb hby d7_0) rfl ?_
    show Steps p.tables e below (s₁.setTop (mkF m 1 #[rv ar, iv (2 : Int32), .unset] [(.int (2 : Int32))])) _
    refine XS.aloadN X0.here hx rfl (hb hby d7_1) rfl rfl ?_
    show Steps p.tables e below (s₁.setTop (mkF m 2 #[rv ar, iv (2 : Int32), .unset] [(.ref ar), (.int (2 : Int32))])) _
    refine X0.arraylength hx (by rw [e0]; exact Ar1.1) (State.isArrayOf_alike hZ.alike Ar1.2.1) (g := (mkF m 2 #[rv ar, iv (2 : Int32), .unset] [(.ref ar), (.int (2 : Int32))])) rfl rfl (hb hby d7_2) _ ?_
    rw [len_of Sz1 Nn1]
    show Steps p.tables e below (s₁.setTop (mkF m 3 #[rv ar, iv (2 : Int32), .unset] [(.int ln), (.int (2 : Int32))])) _
    refine XS.icmpYes X0.here hx rfl (pc0 := 3) (pc' := 14) rfl (hb hby d7_3) rfl (feq hne).2 (by decide) (by decide) ?_
    refine XS.iloadN X0.here hx rfl (hb hby d7_14) rfl ?_
    show Steps p.tables e below (s₁.setTop (mkF m 15 #[rv ar, iv (2 : Int32), .unset] [(.int (2 : Int32))])) _
    refine st2 _ ?_
    show Steps p.tables e below (T2.setTop (mkF m 17 #[rv ar, iv (2 : Int32), .unset] [(.ref b2)])) _
    refine XS.astoreN X2.here hx rfl (hb hby d7_17) rfl rfl (l' := #[rv ar, iv (2 : Int32), rv b2]) rfl ?_
    refine XS.aloadN X2.here hx rfl (hb hby d7_18) rfl rfl ?_
    refine XS.iconst X2.here hx rfl (hb hby d7_19) ?_
    show Steps p.tables e below (T2.setTop (mkF m 20 #[rv ar, iv (2 : Int32), rv b2] [(.int (0 : Int32)), (.ref ar)])) _
    refine XS.aloadN X2.here hx rfl (hb hby d7_20) rfl rfl ?_
    refine XS.iconst X2.here hx rfl (hb hby d7_21) ?_
    refine XS.aloadN X2.here hx rfl (hb hby d7_22) rfl rfl ?_
    show Steps p.tables e below (T2.setTop (mkF m 23 #[rv ar, iv (2 : Int32), rv b2] [(.ref ar), (.int (0 : Int32)), (.ref b2), (.int (0 : Int32)), (.ref ar)])) _
    refine X2.arraylength hx (by rw [e2]; exact Ar9.1) (State.isArrayOf_alike hZ.alike Ar9.2.1) (g := (mkF m 23 #[rv ar, iv (2 : Int32), rv b2] [(.ref ar), (.int (0 : Int32)), (.ref b2), (.int (0 : Int32)), (.ref ar)])) rfl rfl (hb hby d7_23) _ ?_
    rw [len_of Sz9 Nn9]
    show Steps p.tables e below (T2.setTop (mkF m 24 #[rv ar, iv (2 : Int32), rv b2] [(.int ln), (.int (0 : Int32)), (.ref b2), (.int (0 : Int32)), (.ref ar)])) _
    refine XS.iloadN X2.here hx rfl (hb hby d7_24) rfl ?_
    show Steps p.tables e below (T2.setTop (mkF m 25 #[rv ar, iv (2 : Int32), rv b2] [(.int (2 : Int32)), (.int ln), (.int (0 : Int32)), (.ref b2), (.int (0 : Int32)), (.ref ar)])) _
    refine st10 _ ?_
    show Steps p.tables e below (T10.setTop (mkF m 28 #[rv ar, iv (2 : Int32), rv b2] [(.int (if (2 : Int32) < ln then (2 : Int32) else ln)), (.int (0 : Int32)), (.ref b2), (.int (0 : Int32)), (.ref ar)])) _
    rw [q13]
    show Steps p.tables e below (T10.setTop (mkF m 28 #[rv ar, iv (2 : Int32), rv b2] [(.int (2 : Int32)), (.int (0 : Int32)), (.ref b2), (.int (0 : Int32)), (.ref ar)])) _
    show Steps p.tables e below (T10.setTop (mkF m 28 #[rv ar, iv (2 : Int32), rv b2] [(.int (2 : Int32)), (.int (0 : Int32)), (.ref b2), (.int (0 : Int32)), (.ref ar)])) _
    refine st14 _ ?_
    show Steps p.tables e below (T14.setTop (mkF m 31 #[rv ar, iv (2 : Int32), rv b2] [])) _
    refine XS.aloadN X14.here hx rfl (hb hby d7_31) rfl rfl ?_
    show Steps p.tables e below (T14.setTop (mkF m 32 #[rv ar, iv (2 : Int32), rv b2] [(.ref b2)])) _
    exact retOut X14 hx Bd.returns rfl (Or.inr (Or.inr (Or.inr (Or.inr ⟨rfl, rfl, rfl⟩)))) (hb hby d7_32) hr
  · show Q_rm_cs2 Z _ _ _ _ h0 n0 _ T14.heap _
    rw [e14]
    exact ⟨b2, rfl, N14, (K15), bz5, f16⟩
theorem ef_rm_cs3 (m : MethodId) (x0 : Addr) (x1 : Int32) : entryFrame m #[(.ref x0), (.int x1)] 3 = mkF m 0 #[rv x0, iv x1, .unset] [] := by first | (simp [entryFrame, mkF, argsToLocals, Value.category]; done) | rfl
def Q_rm_cs3 (Z : State) (ar : Addr) (ln : Int32) (x0 : Int32) (x1 : Int32) (x2 : Int32) (h0 : Heap) (n0 : Nat) (v : Option Value) (h : Heap) (L : List Loc) : Prop := ∃ (b : Addr), v = some (.ref b) ∧ Fr n0 L ∧ Keep h0 h [] ∧ (h0.size ≤ b) ∧ (Av Z h b .byte (3 : Int32) [(.int x0), (.int x1), (.int x2)] (.int (0 : Int32)))
set_option maxRecDepth 65536 in
set_option maxHeartbeats 40000000 in
theorem rm_cs3 (l : Launch) (Z : State) (a0 : Array Value) (hw : ∀ d ∈ tables_1, d.before a0 Z = true) (ws : List Jvm.Cond) (ar : Addr) (ln : Int32) (x0 : Int32) (x1 : Int32) (x2 : Int32) (h0 : Heap) (n0 : Nat) (Z0 : n0 ≤ h0.size) (pf_X_ar : Px Z h0 ar .byte ln [(.int x0), (.int x1), (.int x2)]) (hle : (3 : Int32).toInt ≤ ln.toInt) (hne : ¬ ((3 : Int32) = ln)) :
    MetFree l (⟨"java/util/Arrays", "copyOf", "([BI)[B"⟩ : MethodName) (head1 (Jvm.Cond.code (⟨"java/util/Arrays", "copyOf", "([BI)[B"⟩ : MethodName) jdk_65_method_121_code 3 (some (.array .byte)) :: ws) ({ frames := 1, cells := 1, slots := 3, locals := 18 } : Room)) (fun a U => a = #[(.ref ar), (.int (3 : Int32))] ∧ Z.Warmed39 U.vm ∧ U.heap = h0) (fun _ _ _ _ _ => True) (fun _ U o U' => ∃ v L, o = .returned v ∧ Q_rm_cs3 Z ar ln x0 x1 x2 h0 n0 v U'.heap L ∧ FrameEnd U o U' L ({ frames := 1, cells := 1, slots := 3, locals := 18 } : Room).cells ({ frames := 1, cells := 1, slots := 3, locals := 18 } : Room).slots) := by
  refine MetFree.of_bodySF (plainFor_of_name pn_java_util_Arrays) hisR ?_
  intro p e s m args below meth c s₁ Bd hml0 hP hK
  obtain ⟨rfl, hZ, hh⟩ := hP
  have hx := Bd.exec
  have hby := Bd.bytes
  have hml : c.maxLocals = 3 := hml0
  have hown : s.vm.findClass "java/util/Arrays" = some m.cls := findClass_of_methodNamed Bd.named
  have hnm := (name_of_methodNamed Bd.named Bd.method).1
  have X0 : Stand p l e ({ frames := 1, cells := 1, slots := 3, locals := 18 } : Room) s m #[(.ref ar), (.int (3 : Int32))] below meth c s₁ [] 0 0 := Stand.of_body Bd
  have e0 : s₁.heap = h0 := by rw [← hh, Bd.state]; rfl
  have N0 := Fr.nil n0
  have pre0 : ∀ t, Steps p.tables e below (s₁.setTop (mkF m 0 #[rv ar, iv (3 : Int32), .unset] [])) t → Steps p.tables e below (s₁.setTop (entryFrame m #[(.ref ar), (.int (3 : Int32))] 3)) t := fun t k => castTop (ef_rm_cs3 m ar (3 : Int32)) k
  have wo13 := hw _ (List.mem_of_getElem? (i := 13) rfl)
  have wo15 := hw _ (List.mem_of_getElem? (i := 15) rfl)
  have wo36 := hw _ (List.mem_of_getElem? (i := 36) rfl)
  have wo37 := hw _ (List.mem_of_getElem? (i := 37) rfl)
  have wo38 := hw _ (List.mem_of_getElem? (i := 38) rfl)
  have wo39 := hw _ (List.mem_of_getElem? (i := 39) rfl)
  have wo40 := hw _ (List.mem_of_getElem? (i := 40) rfl)
  have wo41 := hw _ (List.mem_of_getElem? (i := 41) rfl)
  have wo42 := hw _ (List.mem_of_getElem? (i := 42) rfl)
  obtain ⟨re1, kk1, cl1, Ar1, qq1, Sz1, Nn1, Hs1, Gf1⟩ := id pf_X_ar
  obtain ⟨T2, h2, k2, X2, e2, E2, A2, st2⟩ := newP (aty := .byte) X0 hx hZ wo15 e0 (g := (mkF m 15 #[rv ar, iv (3 : Int32), .unset] [(.int (3 : Int32))])) rfl (hb hby d7_15) rfl (by decide) (cap := 3) (by decide) (by decide) (by decide) (by decide)
  obtain ⟨b2, gg2⟩ : ∃ z, z = h0.size := ⟨_, rfl⟩
  rw [← gg2] at A2 st2
  have ne3 : ar ≠ b2 := Nat.ne_of_lt (Nat.lt_of_lt_of_le pf_X_ar.lt (Nat.le_of_eq gg2.symm))
  have g4 : n0 ≤ b2 := Nat.le_trans Z0 (Nat.le_of_eq gg2.symm)
  have bz5 : h0.size ≤ b2 := Nat.le_trans (Keep.refl h0 []).1 (Nat.le_of_eq gg2.symm)
  have K7 : Keep h0 h2 [] := (Keep.refl h0 []).ext E2
  have f6 : Av Z h2 b2 .byte (3 : Int32) [(.int (0 : Int32)), (.int (0 : Int32)), (.int (0 : Int32))] (.int (0 : Int32)) := ⟨_, (Arv.new A2 (by decide)).pad (pad_rep [] (.int (0 : Int32)) 3)⟩
  have f8 := (pf_X_ar.ext E2)
  obtain ⟨re9, kk9, cl9, Ar9, qq9, Sz9, Nn9, Hs9, Gf9⟩ := id f8
  have f11 := (Nat.le_trans Z0 E2.1)
  obtain ⟨_, _, ⟨T10, L10, k10, n10⟩, -, X10, ⟨Lc10, hQ10, l10, y10, z10⟩, st10⟩ := Jvm.LawKit.callS X2 hx (y := MN8) hown (mvT hZ wo36) (mvT hZ wo37) (mvT hZ wo13) (mvT hZ wo38) (by decide) (backOf (W := 4) (rm8 l Z a0 hw [] ln (3 : Int32) h2 n0 f11 ) hZ wo38 wo13 (by decide) (by decide)) (g := (mkF m 25 #[rv ar, iv (3 : Int32), rv b2] [(.int (3 : Int32)), (.int ln), (.int (0 : Int32)), (.ref b2), (.int (0 : Int32)), (.ref ar)])) rfl (by rw [hml]; rfl) (argsL := [(.int ln), (.int (3 : Int32))]) (rest := [(.int (0 : Int32)), (.ref b2), (.int (0 : Int32)), (.ref ar)]) (lenOf pd_3 rfl) rfl (by show 2 * 0 + _ ≤ _; exact Nat.le_of_eq rfl) (hb hby d7_25) (fun _ _ => ⟨rfl, e2, (by decide : 1 + 0 ≤ _), (by decide : 3 + 0 ≤ _)⟩)
  dsimp only [Pt.U, Pt.locs, Pt.cells, Pt.slots] at X10 l10 y10 z10 st10 hQ10
  rw [l10, y10, z10] at X10
  obtain ⟨rfl, N10q, K10q⟩ := hQ10
  have N12 := Fr.app N0 N10q
  have q13 : (if (3 : Int32) < ln then (3 : Int32) else ln) = (3 : Int32) := if_pos (own_lt _ _ hle hne)
  obtain ⟨rs14, ks14, As14⟩ := id f8
  obtain ⟨kd14, Bd14⟩ := id f6
  obtain ⟨T14, h14, L14, X14, e14, N14, K14c, V14, st14⟩ := cpA X10 hx hZ hown wo39 wo42 wo40 wo41 K10q As14 Bd14 (Or.inl ⟨rfl, rfl⟩) (sp := (0 : Int32)) (dp := (0 : Int32)) (nn := (3 : Int32)) (us := [(.int x0), (.int x1), (.int x2)]) (by decide) (by decide) (by decide) (own_h4 _ _ hle (by decide)) (by decide) rfl (by decide) N12 g4 (g := (mkF m 28 #[rv ar, iv (3 : Int32), rv b2] [(.int (3 : Int32)), (.int (0 : Int32)), (.ref b2), (.int (0 : Int32)), (.ref ar)])) rfl (by rw [hml]; rfl) rfl (hb hby d7_28) (by decide) (W := 0) (by show 2 * 0 + _ ≤ _; exact Nat.le_of_eq rfl) (by decide +kernel)
  have K15 : Keep h0 h14 [] := (K7).trans K14c (allS (P := fun x => x ∈ [] ∨ h0.size ≤ x) (Or.inr bz5) all0)
  have f16 : Av Z h14 b2 .byte (3 : Int32) [(.int x0), (.int x1), (.int x2)] (.int (0 : Int32)) := ⟨_, V14⟩
  obtain ⟨fs, hr, hrun, hended, hW, hsame⟩ := X14.leave (v := some (.ref b2)) (fun h => by rw [Bd.returns] at h; cases h)
  refine ⟨_, _, pre0 _ ?_, hrun, hended, _, _, rfl, ?_, ⟨_, rfl⟩, hW, hsame.mono (by decide) (by decide)⟩
  · show Steps p.tables e below (s₁.setTop (mkF m 0 #[rv ar, iv (3 : Int32), .unset] [])) _
    refine XS.iloadN X0.here hx rfl (hb hby d7_0) rfl ?_
    show Steps p.tables e below (s₁.setTop (mkF m 1 #[rv ar, iv (3 : Int32), .unset] [(.int (3 : Int32))])) _
    refine XS.aloadN X0.here hx rfl (hb hby d7_1) rfl rfl ?_
    show Steps p.tables e below (s₁.setTop (mkF m 2 #[rv ar, iv (3 : Int32), .unset] [(.ref ar), (.int (3 : Int32))])) _
    refine X0.arraylength hx (by rw [e0]; exact Ar1.1) (State.isArrayOf_alike hZ.alike Ar1.2.1) (g := (mkF m 2 #[rv ar, iv (3 : Int32), .unset] [(.ref ar), (.int (3 : Int32))])) rfl rfl (hb hby d7_2) _ ?_
    rw [len_of Sz1 Nn1]
    show Steps p.tables e below (s₁.setTop (mkF m 3 #[rv ar, iv (3 : Int32), .unset] [(.int ln), (.int (3 : Int32))])) _
    refine XS.icmpYes X0.here hx rfl (pc0 := 3) (pc' := 14) rfl (hb hby d7_3) rfl (feq hne).2 (by decide) (by decide) ?_
    refine XS.iloadN X0.here hx rfl (hb hby d7_14) rfl ?_
    show Steps p.tables e below (s₁.setTop (mkF m 15 #[rv ar, iv (3 : Int32), .unset] [(.int (3 : Int32))])) _
    refine st2 _ ?_
    show Steps p.tables e below (T2.setTop (mkF m 17 #[rv ar, iv (3 : Int32), .unset] [(.ref b2)])) _
    refine XS.astoreN X2.here hx rfl (hb hby d7_17) rfl rfl (l' := #[rv ar, iv (3 : Int32), rv b2]) rfl ?_
    refine XS.aloadN X2.here hx rfl (hb hby d7_18) rfl rfl ?_
    refine XS.iconst X2.here hx rfl (hb hby d7_19) ?_
    show Steps p.tables e below (T2.setTop (mkF m 20 #[rv ar, iv (3 : Int32), rv b2] [(.int (0 : Int32)), (.ref ar)])) _
    refine XS.aloadN X2.here hx rfl (hb hby d7_20) rfl rfl ?_
    refine XS.iconst X2.here hx rfl (hb hby d7_21) ?_
    refine XS.aloadN X2.here hx rfl (hb hby d7_22) rfl rfl ?_
    show Steps p.tables e below (T2.setTop (mkF m 23 #[rv ar, iv (3 : Int32), rv b2] [(.ref ar), (.int (0 : Int32)), (.ref b2), (.int (0 : Int32)), (.ref ar)])) _
    refine X2.arraylength hx (by rw [e2]; exact Ar9.1) (State.isArrayOf_alike hZ.alike Ar9.2.1) (g := (mkF m 23 #[rv ar, iv (3 : Int32), rv b2] [(.ref ar), (.int (0 : Int32)), (.ref b2), (.int (0 : Int32)), (.ref ar)])) rfl rfl (hb hby d7_23) _ ?_
    rw [len_of Sz9 Nn9]
    show Steps p.tables e below (T2.setTop (mkF m 24 #[rv ar, iv (3 : Int32), rv b2] [(.int ln), (.int (0 : Int32)), (.ref b2), (.int (0 : Int32)), (.ref ar)])) _
    refine XS.iloadN X2.here hx rfl (hb hby d7_24) rfl ?_
    show Steps p.tables e below (T2.setTop (mkF m 25 #[rv ar, iv (3 : Int32), rv b2] [(.int (3 : Int32)), (.int ln), (.int (0 : Int32)), (.ref b2), (.int (0 : Int32)), (.ref ar)])) _
    refine st10 _ ?_
    show Steps p.tables e below (T10.setTop (mkF m 28 #[rv ar, iv (3 : Int32), rv b2] [(.int (if (3 : Int32) < ln then (3 : Int32) else ln)), (.int (0 : Int32)), (.ref b2), (.int (0 : Int32)), (.ref ar)])) _
    rw [q13]
    show Steps p.tables e below (T10.setTop (mkF m 28 #[rv ar, iv (3 : Int32), rv b2] [(.int (3 : Int32)), (.int (0 : Int32)), (.ref b2), (.int (0 : Int32)), (.ref ar)])) _
    show Steps p.tables e below (T10.setTop (mkF m 28 #[rv ar, iv (3 : Int32), rv b2] [(.int (3 : Int32)), (.int (0 : Int32)), (.ref b2), (.int (0 : Int32)), (.ref ar)])) _
    refine st14 _ ?_
    show Steps p.tables e below (T14.setTop (mkF m 31 #[rv ar, iv (3 : Int32), rv b2] [])) _
    refine XS.aloadN X14.here hx rfl (hb hby d7_31) rfl rfl ?_
    show Steps p.tables e below (T14.setTop (mkF m 32 #[rv ar, iv (3 : Int32), rv b2] [(.ref b2)])) _
    exact retOut X14 hx Bd.returns rfl (Or.inr (Or.inr (Or.inr (Or.inr ⟨rfl, rfl, rfl⟩)))) (hb hby d7_32) hr
  · show Q_rm_cs3 Z _ _ _ _ _ h0 n0 _ T14.heap _
    rw [e14]
    exact ⟨b2, rfl, N14, (K15), bz5, f16⟩
theorem ef_rm_cs4 (m : MethodId) (x0 : Addr) (x1 : Int32) : entryFrame m #[(.ref x0), (.int x1)] 3 = mkF m 0 #[rv x0, iv x1, .unset] [] := by first | (simp [entryFrame, mkF, argsToLocals, Value.category]; done) | rfl
def Q_rm_cs4 (Z : State) (ar : Addr) (ln : Int32) (x0 : Int32) (x1 : Int32) (x2 : Int32) (x3 : Int32) (h0 : Heap) (n0 : Nat) (v : Option Value) (h : Heap) (L : List Loc) : Prop := ∃ (b : Addr), v = some (.ref b) ∧ Fr n0 L ∧ Keep h0 h [] ∧ (h0.size ≤ b) ∧ (Av Z h b .byte (4 : Int32) [(.int x0), (.int x1), (.int x2), (.int x3)] (.int (0 : Int32)))
set_option maxRecDepth 65536 in
set_option maxHeartbeats 40000000 in
theorem rm_cs4 (l : Launch) (Z : State) (a0 : Array Value) (hw : ∀ d ∈ tables_1, d.before a0 Z = true) (ws : List Jvm.Cond) (ar : Addr) (ln : Int32) (x0 : Int32) (x1 : Int32) (x2 : Int32) (x3 : Int32) (h0 : Heap) (n0 : Nat) (Z0 : n0 ≤ h0.size) (pf_X_ar : Px Z h0 ar .byte ln [(.int x0), (.int x1), (.int x2), (.int x3)]) (hle : (4 : Int32).toInt ≤ ln.toInt) (hne : ¬ ((4 : Int32) = ln)) :
    MetFree l (⟨"java/util/Arrays", "copyOf", "([BI)[B"⟩ : MethodName) (head1 (Jvm.Cond.code (⟨"java/util/Arrays", "copyOf", "([BI)[B"⟩ : MethodName) jdk_65_method_121_code 3 (some (.array .byte)) :: ws) ({ frames := 1, cells := 1, slots := 4, locals := 18 } : Room)) (fun a U => a = #[(.ref ar), (.int (4 : Int32))] ∧ Z.Warmed39 U.vm ∧ U.heap = h0) (fun _ _ _ _ _ => True) (fun _ U o U' => ∃ v L, o = .returned v ∧ Q_rm_cs4 Z ar ln x0 x1 x2 x3 h0 n0 v U'.heap L ∧ FrameEnd U o U' L ({ frames := 1, cells := 1, slots := 4, locals := 18 } : Room).cells ({ frames := 1, cells := 1, slots := 4, locals := 18 } : Room).slots) := by
  refine MetFree.of_bodySF (plainFor_of_name pn_java_util_Arrays) hisR ?_
  intro p e s m args below meth c s₁ Bd hml0 hP hK
  obtain ⟨rfl, hZ, hh⟩ := hP
  have hx := Bd.exec
  have hby := Bd.bytes
  have hml : c.maxLocals = 3 := hml0
  have hown : s.vm.findClass "java/util/Arrays" = some m.cls := findClass_of_methodNamed Bd.named
  have hnm := (name_of_methodNamed Bd.named Bd.method).1
  have X0 : Stand p l e ({ frames := 1, cells := 1, slots := 4, locals := 18 } : Room) s m #[(.ref ar), (.int (4 : Int32))] below meth c s₁ [] 0 0 := Stand.of_body Bd
  have e0 : s₁.heap = h0 := by rw [← hh, Bd.state]; rfl
  have N0 := Fr.nil n0
  have pre0 : ∀ t, Steps p.tables e below (s₁.setTop (mkF m 0 #[rv ar, iv (4 : Int32), .unset] [])) t → Steps p.tables e below (s₁.setTop (entryFrame m #[(.ref ar), (.int (4 : Int32))] 3)) t := fun t k => castTop (ef_rm_cs4 m ar (4 : Int32)) k
  have wo13 := hw _ (List.mem_of_getElem? (i := 13) rfl)
  have wo15 := hw _ (List.mem_of_getElem? (i := 15) rfl)
  have wo36 := hw _ (List.mem_of_getElem? (i := 36) rfl)
  have wo37 := hw _ (List.mem_of_getElem? (i := 37) rfl)
  have wo38 := hw _ (List.mem_of_getElem? (i := 38) rfl)
  have wo39 := hw _ (List.mem_of_getElem? (i := 39) rfl)
  have wo40 := hw _ (List.mem_of_getElem? (i := 40) rfl)
  have wo41 := hw _ (List.mem_of_getElem? (i := 41) rfl)
  have wo42 := hw _ (List.mem_of_getElem? (i := 42) rfl)
  obtain ⟨re1, kk1, cl1, Ar1, qq1, Sz1, Nn1, Hs1, Gf1⟩ := id pf_X_ar
  obtain ⟨T2, h2, k2, X2, e2, E2, A2, st2⟩ := newP (aty := .byte) X0 hx hZ wo15 e0 (g := (mkF m 15 #[rv ar, iv (4 : Int32), .unset] [(.int (4 : Int32))])) rfl (hb hby d7_15) rfl (by decide) (cap := 4) (by decide) (by decide) (by decide) (by decide)
  obtain ⟨b2, gg2⟩ : ∃ z, z = h0.size := ⟨_, rfl⟩
  rw [← gg2] at A2 st2
  have ne3 : ar ≠ b2 := Nat.ne_of_lt (Nat.lt_of_lt_of_le pf_X_ar.lt (Nat.le_of_eq gg2.symm))
  have g4 : n0 ≤ b2 := Nat.le_trans Z0 (Nat.le_of_eq gg2.symm)
  have bz5 : h0.size ≤ b2 := Nat.le_trans (Keep.refl h0 []).1 (Nat.le_of_eq gg2.symm)
  have K7 : Keep h0 h2 [] := (Keep.refl h0 []).ext E2
  have f6 : Av Z h2 b2 .byte (4 : Int32) [(.int (0 : Int32)), (.int (0 : Int32)), (.int (0 : Int32)), (.int (0 : Int32))] (.int (0 : Int32)) := ⟨_, (Arv.new A2 (by decide)).pad (pad_rep [] (.int (0 : Int32)) 4)⟩
  have f8 := (pf_X_ar.ext E2)
  obtain ⟨re9, kk9, cl9, Ar9, qq9, Sz9, Nn9, Hs9, Gf9⟩ := id f8
  have f11 := (Nat.le_trans Z0 E2.1)
  obtain ⟨_, _, ⟨T10, L10, k10, n10⟩, -, X10, ⟨Lc10, hQ10, l10, y10, z10⟩, st10⟩ := Jvm.LawKit.callS X2 hx (y := MN8) hown (mvT hZ wo36) (mvT hZ wo37) (mvT hZ wo13) (mvT hZ wo38) (by decide) (backOf (W := 4) (rm8 l Z a0 hw [] ln (4 : Int32) h2 n0 f11 ) hZ wo38 wo13 (by decide) (by decide)) (g := (mkF m 25 #[rv ar, iv (4 : Int32), rv b2] [(.int (4 : Int32)), (.int ln), (.int (0 : Int32)), (.ref b2), (.int (0 : Int32)), (.ref ar)])) rfl (by rw [hml]; rfl) (argsL := [(.int ln), (.int (4 : Int32))]) (rest := [(.int (0 : Int32)), (.ref b2), (.int (0 : Int32)), (.ref ar)]) (lenOf pd_3 rfl) rfl (by show 2 * 0 + _ ≤ _; exact Nat.le_of_eq rfl) (hb hby d7_25) (fun _ _ => ⟨rfl, e2, (by decide : 1 + 0 ≤ _), (by decide : 4 + 0 ≤ _)⟩)
  dsimp only [Pt.U, Pt.locs, Pt.cells, Pt.slots] at X10 l10 y10 z10 st10 hQ10
  rw [l10, y10, z10] at X10
  obtain ⟨rfl, N10q, K10q⟩ := hQ10
  have N12 := Fr.app N0 N10q
  have q13 : (if (4 : Int32) < ln then (4 : Int32) else ln) = (4 : Int32) := if_pos (own_lt _ _ hle hne)
  obtain ⟨rs14, ks14, As14⟩ := id f8
  obtain ⟨kd14, Bd14⟩ := id f6
  obtain ⟨T14, h14, L14, X14, e14, N14, K14c, V14, st14⟩ := cpA X10 hx hZ hown wo39 wo42 wo40 wo41 K10q As14 Bd14 (Or.inl ⟨rfl, rfl⟩) (sp := (0 : Int32)) (dp := (0 : Int32)) (nn := (4 : Int32)) (us := [(.int x0), (.int x1), (.int x2), (.int x3)]) (by decide) (by decide) (by decide) (own_h4 _ _ hle (by decide)) (by decide) rfl (by decide) N12 g4 (g := (mkF m 28 #[rv ar, iv (4 : Int32), rv b2] [(.int (4 : Int32)), (.int (0 : Int32)), (.ref b2), (.int (0 : Int32)), (.ref ar)])) rfl (by rw [hml]; rfl) rfl (hb hby d7_28) (by decide) (W := 0) (by show 2 * 0 + _ ≤ _; exact Nat.le_of_eq rfl) (by decide +kernel)
  have K15 : Keep h0 h14 [] := (K7).trans K14c (allS (P := fun x => x ∈ [] ∨ h0.size ≤ x) (Or.inr bz5) all0)
  have f16 : Av Z h14 b2 .byte (4 : Int32) [(.int x0), (.int x1), (.int x2), (.int x3)] (.int (0 : Int32)) := ⟨_, V14⟩
  obtain ⟨fs, hr, hrun, hended, hW, hsame⟩ := X14.leave (v := some (.ref b2)) (fun h => by rw [Bd.returns] at h; cases h)
  refine ⟨_, _, pre0 _ ?_, hrun, hended, _, _, rfl, ?_, ⟨_, rfl⟩, hW, hsame.mono (by decide) (by decide)⟩
  · show Steps p.tables e below (s₁.setTop (mkF m 0 #[rv ar, iv (4 : Int32), .unset] [])) _
    refine XS.iloadN X0.here hx rfl (hb hby d7_0) rfl ?_
    show Steps p.tables e below (s₁.setTop (mkF m 1 #[rv ar, iv (4 : Int32), .unset] [(.int (4 : Int32))])) _
    refine XS.aloadN X0.here hx rfl (hb hby d7_1) rfl rfl ?_
    show Steps p.tables e below (s₁.setTop (mkF m 2 #[rv ar, iv (4 : Int32), .unset] [(.ref ar), (.int (4 : Int32))])) _
    refine X0.arraylength hx (by rw [e0]; exact Ar1.1) (State.isArrayOf_alike hZ.alike Ar1.2.1) (g := (mkF m 2 #[rv ar, iv (4 : Int32), .unset] [(.ref ar), (.int (4 : Int32))])) rfl rfl (hb hby d7_2) _ ?_
    rw [len_of Sz1 Nn1]
    show Steps p.tables e below (s₁.setTop (mkF m 3 #[rv ar, iv (4 : Int32), .unset] [(.int ln), (.int (4 : Int32))])) _
    refine XS.icmpYes X0.here hx rfl (pc0 := 3) (pc' := 14) rfl (hb hby d7_3) rfl (feq hne).2 (by decide) (by decide) ?_
    refine XS.iloadN X0.here hx rfl (hb hby d7_14) rfl ?_
    show Steps p.tables e below (s₁.setTop (mkF m 15 #[rv ar, iv (4 : Int32), .unset] [(.int (4 : Int32))])) _
    refine st2 _ ?_
    show Steps p.tables e below (T2.setTop (mkF m 17 #[rv ar, iv (4 : Int32), .unset] [(.ref b2)])) _
    refine XS.astoreN X2.here hx rfl (hb hby d7_17) rfl rfl (l' := #[rv ar, iv (4 : Int32), rv b2]) rfl ?_
    refine XS.aloadN X2.here hx rfl (hb hby d7_18) rfl rfl ?_
    refine XS.iconst X2.here hx rfl (hb hby d7_19) ?_
    show Steps p.tables e below (T2.setTop (mkF m 20 #[rv ar, iv (4 : Int32), rv b2] [(.int (0 : Int32)), (.ref ar)])) _
    refine XS.aloadN X2.here hx rfl (hb hby d7_20) rfl rfl ?_
    refine XS.iconst X2.here hx rfl (hb hby d7_21) ?_
    refine XS.aloadN X2.here hx rfl (hb hby d7_22) rfl rfl ?_
    show Steps p.tables e below (T2.setTop (mkF m 23 #[rv ar, iv (4 : Int32), rv b2] [(.ref ar), (.int (0 : Int32)), (.ref b2), (.int (0 : Int32)), (.ref ar)])) _
    refine X2.arraylength hx (by rw [e2]; exact Ar9.1) (State.isArrayOf_alike hZ.alike Ar9.2.1) (g := (mkF m 23 #[rv ar, iv (4 : Int32), rv b2] [(.ref ar), (.int (0 : Int32)), (.ref b2), (.int (0 : Int32)), (.ref ar)])) rfl rfl (hb hby d7_23) _ ?_
    rw [len_of Sz9 Nn9]
    show Steps p.tables e below (T2.setTop (mkF m 24 #[rv ar, iv (4 : Int32), rv b2] [(.int ln), (.int (0 : Int32)), (.ref b2), (.int (0 : Int32)), (.ref ar)])) _
    refine XS.iloadN X2.here hx rfl (hb hby d7_24) rfl ?_
    show Steps p.tables e below (T2.setTop (mkF m 25 #[rv ar, iv (4 : Int32), rv b2] [(.int (4 : Int32)), (.int ln), (.int (0 : Int32)), (.ref b2), (.int (0 : Int32)), (.ref ar)])) _
    refine st10 _ ?_
    show Steps p.tables e below (T10.setTop (mkF m 28 #[rv ar, iv (4 : Int32), rv b2] [(.int (if (4 : Int32) < ln then (4 : Int32) else ln)), (.int (0 : Int32)), (.ref b2), (.int (0 : Int32)), (.ref ar)])) _
    rw [q13]
    show Steps p.tables e below (T10.setTop (mkF m 28 #[rv ar, iv (4 : Int32), rv b2] [(.int (4 : Int32)), (.int (0 : Int32)), (.ref b2), (.int (0 : Int32)), (.ref ar)])) _
    show Steps p.tables e below (T10.setTop (mkF m 28 #[rv ar, iv (4 : Int32), rv b2] [(.int (4 : Int32)), (.int (0 : Int32)), (.ref b2), (.int (0 : Int32)), (.ref ar)])) _
    refine st14 _ ?_
    show Steps p.tables e below (T14.setTop (mkF m 31 #[rv ar, iv (4 : Int32), rv b2] [])) _
    refine XS.aloadN X14.here hx rfl (hb hby d7_31) rfl rfl ?_
    show Steps p.tables e below (T14.setTop (mkF m 32 #[rv ar, iv (4 : Int32), rv b2] [(.ref b2)])) _
    exact retOut X14 hx Bd.returns rfl (Or.inr (Or.inr (Or.inr (Or.inr ⟨rfl, rfl, rfl⟩)))) (hb hby d7_32) hr
  · show Q_rm_cs4 Z _ _ _ _ _ _ h0 n0 _ T14.heap _
    rw [e14]
    exact ⟨b2, rfl, N14, (K15), bz5, f16⟩
theorem d1_0 : decode prog_15_method_2_code 0 = .ok (.aload_n 0, 1) := by decide +kernel
theorem d1_1 : decode prog_15_method_2_code 1 = .ok (.invokespecial 11, 3) := by decide +kernel
theorem d1_4 : decode prog_15_method_2_code 4 = .ok (.aload_n 0, 1) := by decide +kernel
theorem d1_5 : decode prog_15_method_2_code 5 = .ok (.lload_n 1, 1) := by decide +kernel
theorem d1_6 : decode prog_15_method_2_code 6 = .ok (.ldc2_w 16, 3) := by decide +kernel
theorem pd_5 : parseMethodDescriptor "(JJ)J" = some ⟨[.long, .long], some .long⟩ := by decide +kernel
theorem d1_9 : decode prog_15_method_2_code 9 = .ok (.invokestatic 18, 3) := by decide +kernel
theorem d1_12 : decode prog_15_method_2_code 12 = .ok (.l2i, 1) := by decide +kernel
theorem d1_13 : decode prog_15_method_2_code 13 = .ok (.newarray .byte, 2) := by decide +kernel
theorem d1_15 : decode prog_15_method_2_code 15 = .ok (.putfield 24, 3) := by decide +kernel
theorem d1_18 : decode prog_15_method_2_code 18 = .ok (.return_, 1) := by decide +kernel
theorem pn_com_example_dido_dido_keys_KeyWriter : plainName "com/example/dido/dido/keys/KeyWriter" = true := by first | (simp [plainName, overriddenIn]; done) | decide +kernel
theorem ef_rm1 (m : MethodId) (x0 : Addr) (x1 : Int64) : entryFrame m #[(.ref x0), (.long x1)] 3 = mkF m 0 #[rv x0, .val (.long x1), .second] [] := by first | (simp [entryFrame, mkF, argsToLocals, Value.category]; done) | rfl
def Q_rm1 (Z : State) (a1_0 : Addr) (cp : Int32) (h0 : Heap) (n0 : Nat) (v : Option Value) (h : Heap) (L : List Loc) : Prop := ∃ (ar : Addr), v = none ∧ Fr n0 L ∧ Keep h0 h [a1_0] ∧ (h0.size ≤ ar) ∧ (Px Z h ar .byte cp []) ∧ (Fld Z h a1_0 "com/example/dido/dido/keys/KeyWriter" "bytes" "[B" (.ref ar)) ∧ (Fld Z h a1_0 "com/example/dido/dido/keys/KeyWriter" "size" "I" (.int (0 : Int32)))
set_option maxRecDepth 65536 in
set_option maxHeartbeats 40000000 in
theorem rm1 (l : Launch) (Z : State) (a0 : Array Value) (hw : ∀ d ∈ tables_1, d.before a0 Z = true) (ws : List Jvm.Cond) (a1_0 : Addr) (cp : Int32) (h0 : Heap) (n0 : Nat) (Z0 : n0 ≤ h0.size) (pf_E_a1_0 : Exa Z h0 a1_0 "com/example/dido/dido/keys/KeyWriter") (pf_G_a1_0 : n0 ≤ a1_0) (pf_F_a1_0_bytes : Fld Z h0 a1_0 "com/example/dido/dido/keys/KeyWriter" "bytes" "[B" .null) (pf_F_a1_0_size : Fld Z h0 a1_0 "com/example/dido/dido/keys/KeyWriter" "size" "I" (.int (0 : Int32))) (hcp : 0 ≤ cp.toInt ∧ cp.toInt < 8) :
    MetFree l (⟨"com/example/dido/dido/keys/KeyWriter", "<init>", "(J)V"⟩ : MethodName) (head1 (Jvm.Cond.code (⟨"com/example/dido/dido/keys/KeyWriter", "<init>", "(J)V"⟩ : MethodName) prog_15_method_2_code 3 none :: ws) ({ frames := 1, cells := 1, slots := 7, locals := 16 } : Room)) (fun a U => a = #[(.ref a1_0), (.long (cp.toInt64))] ∧ Z.Warmed39 U.vm ∧ U.heap = h0) (fun _ _ _ _ _ => True) (fun _ U o U' => ∃ v L, o = .returned v ∧ Q_rm1 Z a1_0 cp h0 n0 v U'.heap L ∧ FrameEnd U o U' L ({ frames := 1, cells := 1, slots := 7, locals := 16 } : Room).cells ({ frames := 1, cells := 1, slots := 7, locals := 16 } : Room).slots) := by
  refine MetFree.of_bodySF (plainFor_of_name pn_com_example_dido_dido_keys_KeyWriter) hisR ?_
  intro p e s m args below meth c s₁ Bd hml0 hP hK
  obtain ⟨rfl, hZ, hh⟩ := hP
  have hx := Bd.exec
  have hby := Bd.bytes
  have hml : c.maxLocals = 3 := hml0
  have hown : s.vm.findClass "com/example/dido/dido/keys/KeyWriter" = some m.cls := findClass_of_methodNamed Bd.named
  have hnm := (name_of_methodNamed Bd.named Bd.method).1
  have X0 : Stand p l e ({ frames := 1, cells := 1, slots := 7, locals := 16 } : Room) s m #[(.ref a1_0), (.long (cp.toInt64))] below meth c s₁ [] 0 0 := Stand.of_body Bd
  have e0 : s₁.heap = h0 := by rw [← hh, Bd.state]; rfl
  have N0 := Fr.nil n0
  have pre0 : ∀ t, Steps p.tables e below (s₁.setTop (mkF m 0 #[rv a1_0, .val (.long (cp.toInt64)), .second] [])) t → Steps p.tables e below (s₁.setTop (entryFrame m #[(.ref a1_0), (.long (cp.toInt64))] 3)) t := fun t k => castTop (ef_rm1 m a1_0 (cp.toInt64)) k
  have wo2 := hw _ (List.mem_of_getElem? (i := 2) rfl)
  have wo7 := hw _ (List.mem_of_getElem? (i := 7) rfl)
  have wo8 := hw _ (List.mem_of_getElem? (i := 8) rfl)
  have wo9 := hw _ (List.mem_of_getElem? (i := 9) rfl)
  have wo10 := hw _ (List.mem_of_getElem? (i := 10) rfl)
  have wo11 := hw _ (List.mem_of_getElem? (i := 11) rfl)
  have wo12 := hw _ (List.mem_of_getElem? (i := 12) rfl)
  have wo13 := hw _ (List.mem_of_getElem? (i := 13) rfl)
  have wo14 := hw _ (List.mem_of_getElem? (i := 14) rfl)
  have wo15 := hw _ (List.mem_of_getElem? (i := 15) rfl)
  have wo16 := hw _ (List.mem_of_getElem? (i := 16) rfl)
  have wo17 := hw _ (List.mem_of_getElem? (i := 17) rfl)
  have wo28 := hw _ (List.mem_of_getElem? (i := 28) rfl)
  obtain ⟨T1, X1, e1, st1⟩ := initO X0 hx hZ hown wo7 wo8 wo9 e0 (g := (mkF m 1 #[rv a1_0, .val (.long (cp.toInt64)), .second] [(.ref a1_0)])) rfl (by rw [hml]; rfl) rfl (hb hby d1_1) (by decide) (W := 0) (by show 2 * 0 + _ ≤ _; exact Nat.le_of_eq rfl) (by decide)
  obtain ⟨_, _, ⟨T2, L2, k2, n2⟩, -, X2, ⟨Lc2, hQ2, l2, y2, z2⟩, st2⟩ := Jvm.LawKit.callS X1 hx (y := MN3) hown (mvT hZ wo11) (mvT hZ wo12) (mvT hZ wo13) (mvT hZ wo14) (by decide) (backOf (W := 1) (rm3 l Z a0 hw [] (cp.toInt64) (2147483639 : Int64) h0 n0 Z0 ) hZ wo14 wo13 (by decide) (by decide)) (g := (mkF m 9 #[rv a1_0, .val (.long (cp.toInt64)), .second] [(.long (2147483639 : Int64)), (.long (cp.toInt64)), (.ref a1_0)])) rfl (by rw [hml]; rfl) (argsL := [(.long (cp.toInt64)), (.long (2147483639 : Int64))]) (rest := [(.ref a1_0)]) (lenOf pd_5 rfl) rfl (by show 2 * 0 + _ ≤ _; exact Nat.le_of_eq rfl) (hb hby d1_9) (fun _ _ => ⟨rfl, e1, (by decide : 0 + 0 ≤ _), (by decide : 0 + 0 ≤ _)⟩)
  dsimp only [Pt.U, Pt.locs, Pt.cells, Pt.slots] at X2 l2 y2 z2 st2 hQ2
  rw [l2, y2, z2] at X2
  obtain ⟨rfl, N2q, K2q⟩ := hQ2
  have N3 := Fr.app N0 N2q
  have q4 : (if (0 : Int32) < (lcmpW (cp.toInt64) (2147483639 : Int64)) then (2147483639 : Int64) else (cp.toInt64)) = (cp.toInt64) := if_neg (own_min cp hcp)
  have q5 : ((cp.toInt64).toInt32) = cp := own_li cp
  obtain ⟨T6, h6, k6, X6, e6, E6, A6, st6⟩ := newP (aty := .byte) X2 hx hZ wo15 K2q (g := (mkF m 13 #[rv a1_0, .val (.long (cp.toInt64)), .second] [(.int cp), (.ref a1_0)])) rfl (hb hby d1_13) rfl (own_nn cp hcp.1) (cap := 7) (own_cap cp hcp) (by decide) (by decide) (by decide)
  obtain ⟨b6, gg6⟩ : ∃ z, z = h0.size := ⟨_, rfl⟩
  rw [← gg6] at A6 st6
  have ne7 : a1_0 ≠ b6 := Nat.ne_of_lt (Nat.lt_of_lt_of_le pf_E_a1_0.lt (Nat.le_of_eq gg6.symm))
  have g8 : n0 ≤ b6 := Nat.le_trans Z0 (Nat.le_of_eq gg6.symm)
  have bz9 : h0.size ≤ b6 := Nat.le_trans (Keep.refl h0 [a1_0]).1 (Nat.le_of_eq gg6.symm)
  have K11 : Keep h0 h6 [a1_0] := (Keep.refl h0 [a1_0]).ext E6
  have f10 : Px Z h6 b6 .byte cp [] := ⟨[], _, Arv.new A6 (own_nn cp hcp.1)⟩
  have f12 := (pf_F_a1_0_bytes.ext E6)
  have f13 := (pf_E_a1_0.ext E6)
  obtain ⟨T14, h14, X14, e14, W14, st14⟩ := putF X6 hx hZ hown (host := "") (Or.inl wo16) Via.refl e6 f12 f13 (Or.inl wo17) wo2 (ty := (.array .byte)) (by decide) rfl rfl (g := (mkF m 15 #[rv a1_0, .val (.long (cp.toInt64)), .second] [(.ref b6), (.ref a1_0)])) rfl rfl (hb hby d1_15)
  have K15 : Keep h0 h14 [a1_0] := (K11).wr W14 (Or.inl (List.mem_of_getElem? (i := 0) rfl))
  have f16 : Fld Z h14 a1_0 "com/example/dido/dido/keys/KeyWriter" "bytes" "[B" (.ref b6) := f12.same W14
  have N17 := Fr.snoc X14 N3 pf_G_a1_0
  have f18 := (f10.other W14 (Ne.symm ne7))
  have f19 := ((pf_F_a1_0_size.ext E6).other W14 (Or.inr (slot_ne (Or.inl wo28) (Or.inl wo17) (by decide) (t := .int) (t' := (.array .byte)) (by decide) (by decide))))
  obtain ⟨fs, hr, hrun, hended, hW, hsame⟩ := X14.leave (v := none) (fun _ => rfl)
  refine ⟨_, _, pre0 _ ?_, hrun, hended, _, _, rfl, ?_, ⟨_, rfl⟩, hW, hsame.mono (by decide) (by decide)⟩
  · show Steps p.tables e below (s₁.setTop (mkF m 0 #[rv a1_0, .val (.long (cp.toInt64)), .second] [])) _
    refine XS.aloadN X0.here hx rfl (hb hby d1_0) rfl rfl ?_
    show Steps p.tables e below (s₁.setTop (mkF m 1 #[rv a1_0, .val (.long (cp.toInt64)), .second] [(.ref a1_0)])) _
    refine st1 _ ?_
    show Steps p.tables e below (T1.setTop (mkF m 4 #[rv a1_0, .val (.long (cp.toInt64)), .second] [])) _
    refine XS.aloadN X1.here hx rfl (hb hby d1_4) rfl rfl ?_
    refine XS.lloadN X1.here hx rfl (hb hby d1_5) rfl ?_
    show Steps p.tables e below (T1.setTop (mkF m 6 #[rv a1_0, .val (.long (cp.toInt64)), .second] [(.long (cp.toInt64)), (.ref a1_0)])) _
    refine X1.ldc2Long hx hown (mvT hZ wo10) (g := (mkF m 6 #[rv a1_0, .val (.long (cp.toInt64)), .second] [(.long (cp.toInt64)), (.ref a1_0)])) rfl (hb hby d1_6) _ ?_
    show Steps p.tables e below (T1.setTop (mkF m 9 #[rv a1_0, .val (.long (cp.toInt64)), .second] [(.long (2147483639 : Int64)), (.long (cp.toInt64)), (.ref a1_0)])) _
    refine st2 _ ?_
    show Steps p.tables e below (T2.setTop (mkF m 12 #[rv a1_0, .val (.long (cp.toInt64)), .second] [(.long (if (0 : Int32) < (lcmpW (cp.toInt64) (2147483639 : Int64)) then (2147483639 : Int64) else (cp.toInt64))), (.ref a1_0)])) _
    rw [q4]
    show Steps p.tables e below (T2.setTop (mkF m 12 #[rv a1_0, .val (.long (cp.toInt64)), .second] [(.long (cp.toInt64)), (.ref a1_0)])) _
    show Steps p.tables e below (T2.setTop (mkF m 12 #[rv a1_0, .val (.long (cp.toInt64)), .second] [(.long (cp.toInt64)), (.ref a1_0)])) _
    refine XS.l2i X2.here hx rfl (hb hby d1_12) rfl ?_
    show Steps p.tables e below (T2.setTop (mkF m 13 #[rv a1_0, .val (.long (cp.toInt64)), .second] [(.int ((cp.toInt64).toInt32)), (.ref a1_0)])) _
    rw [q5]
    show Steps p.tables e below (T2.setTop (mkF m 13 #[rv a1_0, .val (.long (cp.toInt64)), .second] [(.int cp), (.ref a1_0)])) _
    show Steps p.tables e below (T2.setTop (mkF m 13 #[rv a1_0, .val (.long (cp.toInt64)), .second] [(.int cp), (.ref a1_0)])) _
    refine st6 _ ?_
    show Steps p.tables e below (T6.setTop (mkF m 15 #[rv a1_0, .val (.long (cp.toInt64)), .second] [(.ref b6), (.ref a1_0)])) _
    refine st14 _ ?_
    show Steps p.tables e below (T14.setTop (mkF m 18 #[rv a1_0, .val (.long (cp.toInt64)), .second] [])) _
    exact X14.returnOut hx Bd.returns (hb hby d1_18) hr
  · show Q_rm1 Z _ _ h0 n0 _ T14.heap _
    rw [e14]
    exact ⟨b6, rfl, N17, (K15), bz9, f18, f16, f19⟩
theorem d5_0 : decode prog_15_method_13_code 0 = .ok (.iload_n 1, 1) := by decide +kernel
theorem d5_1 : decode prog_15_method_13_code 1 = .ok (.aload_n 0, 1) := by decide +kernel
theorem d5_2 : decode prog_15_method_13_code 2 = .ok (.getfield 24, 3) := by decide +kernel
theorem d5_5 : decode prog_15_method_13_code 5 = .ok (.arraylength, 1) := by decide +kernel
theorem d5_6 : decode prog_15_method_13_code 6 = .ok (.aload_n 0, 1) := by decide +kernel
theorem d5_7 : decode prog_15_method_13_code 7 = .ok (.getfield 28, 3) := by decide +kernel
theorem d5_10 : decode prog_15_method_13_code 10 = .ok (.isub, 1) := by decide +kernel
theorem d5_11 : decode prog_15_method_13_code 11 = .ok (.if_icmp .le 30, 3) := by decide +kernel
theorem d5_14 : decode prog_15_method_13_code 14 = .ok (.aload_n 0, 1) := by decide +kernel
theorem d5_15 : decode prog_15_method_13_code 15 = .ok (.aload_n 0, 1) := by decide +kernel
theorem d5_16 : decode prog_15_method_13_code 16 = .ok (.getfield 24, 3) := by decide +kernel
theorem d5_19 : decode prog_15_method_13_code 19 = .ok (.iconst 2, 1) := by decide +kernel
theorem d5_20 : decode prog_15_method_13_code 20 = .ok (.aload_n 0, 1) := by decide +kernel
theorem d5_21 : decode prog_15_method_13_code 21 = .ok (.getfield 24, 3) := by decide +kernel
theorem d5_24 : decode prog_15_method_13_code 24 = .ok (.arraylength, 1) := by decide +kernel
theorem d5_25 : decode prog_15_method_13_code 25 = .ok (.imul, 1) := by decide +kernel
theorem d5_26 : decode prog_15_method_13_code 26 = .ok (.aload_n 0, 1) := by decide +kernel
theorem d5_27 : decode prog_15_method_13_code 27 = .ok (.getfield 28, 3) := by decide +kernel
theorem d5_30 : decode prog_15_method_13_code 30 = .ok (.iload_n 1, 1) := by decide +kernel
theorem d5_31 : decode prog_15_method_13_code 31 = .ok (.iadd, 1) := by decide +kernel
theorem d5_32 : decode prog_15_method_13_code 32 = .ok (.invokestatic 103, 3) := by decide +kernel
theorem pd_7 : parseMethodDescriptor "([BI)[B" = some ⟨[(.array .byte), .int], some (.array .byte)⟩ := by decide +kernel
theorem d5_35 : decode prog_15_method_13_code 35 = .ok (.invokestatic 97, 3) := by decide +kernel
theorem d5_38 : decode prog_15_method_13_code 38 = .ok (.putfield 24, 3) := by decide +kernel
theorem d5_41 : decode prog_15_method_13_code 41 = .ok (.return_, 1) := by decide +kernel
theorem ef_rm_er0 (m : MethodId) (x0 : Addr) (x1 : Int32) : entryFrame m #[(.ref x0), (.int x1)] 2 = mkF m 0 #[rv x0, iv x1] [] := by first | (simp [entryFrame, mkF, argsToLocals, Value.category]; done) | rfl
def Q_rm_er0 (Z : State) (a5_0 : Addr) (ar : Addr) (ln : Int32) (h0 : Heap) (n0 : Nat) (v : Option Value) (h : Heap) (L : List Loc) : Prop := ∃ (ar2 : Addr) (ln2 : Int32), v = none ∧ Fr n0 L ∧ Keep h0 h [a5_0] ∧ (ar2 = ar ∨ h0.size ≤ ar2) ∧ (n0 ≤ ar2) ∧ (a5_0 ≠ ar2) ∧ (Fld Z h a5_0 "com/example/dido/dido/keys/KeyWriter" "bytes" "[B" (.ref ar2)) ∧ (Fld Z h a5_0 "com/example/dido/dido/keys/KeyWriter" "size" "I" (.int (0 : Int32))) ∧ (Px Z h ar2 .byte ln2 []) ∧ ((0 : Int32).toInt < ln2.toInt) ∧ (ln2.toInt < 9)
set_option maxRecDepth 65536 in
set_option maxHeartbeats 40000000 in
theorem rm_er0 (l : Launch) (Z : State) (a0 : Array Value) (hw : ∀ d ∈ tables_1, d.before a0 Z = true) (ws : List Jvm.Cond) (a5_0 : Addr) (ar : Addr) (ln : Int32) (h0 : Heap) (n0 : Nat) (Z0 : n0 ≤ h0.size) (pf_E_a5_0 : Exa Z h0 a5_0 "com/example/dido/dido/keys/KeyWriter") (pf_G_a5_0 : n0 ≤ a5_0) (pf_G_ar : n0 ≤ ar) (pf_NE_a5_0_ar : a5_0 ≠ ar) (pf_F_a5_0_bytes : Fld Z h0 a5_0 "com/example/dido/dido/keys/KeyWriter" "bytes" "[B" (.ref ar)) (pf_F_a5_0_size : Fld Z h0 a5_0 "com/example/dido/dido/keys/KeyWriter" "size" "I" (.int (0 : Int32))) (pf_X_ar : Px Z h0 ar .byte ln []) (hle : (0 : Int32).toInt ≤ ln.toInt) (h8 : ln.toInt < 9) :
    MetFree l (⟨"com/example/dido/dido/keys/KeyWriter", "ensureRoom", "(I)V"⟩ : MethodName) (head1 (Jvm.Cond.code (⟨"com/example/dido/dido/keys/KeyWriter", "ensureRoom", "(I)V"⟩ : MethodName) prog_15_method_13_code 2 none :: ws) ({ frames := 2, cells := 1, slots := 1, locals := 33 } : Room)) (fun a U => a = #[(.ref a5_0), (.int (1 : Int32))] ∧ Z.Warmed39 U.vm ∧ U.heap = h0) (fun _ _ _ _ _ => True) (fun _ U o U' => ∃ v L, o = .returned v ∧ Q_rm_er0 Z a5_0 ar ln h0 n0 v U'.heap L ∧ FrameEnd U o U' L ({ frames := 2, cells := 1, slots := 1, locals := 33 } : Room).cells ({ frames := 2, cells := 1, slots := 1, locals := 33 } : Room).slots) := by
  refine MetFree.of_bodySF (plainFor_of_name pn_com_example_dido_dido_keys_KeyWriter) hisR ?_
  intro p e s m args below meth c s₁ Bd hml0 hP hK
  obtain ⟨rfl, hZ, hh⟩ := hP
  have hx := Bd.exec
  have hby := Bd.bytes
  have hml : c.maxLocals = 2 := hml0
  have hown : s.vm.findClass "com/example/dido/dido/keys/KeyWriter" = some m.cls := findClass_of_methodNamed Bd.named
  have hnm := (name_of_methodNamed Bd.named Bd.method).1
  have X0 : Stand p l e ({ frames := 2, cells := 1, slots := 1, locals := 33 } : Room) s m #[(.ref a5_0), (.int (1 : Int32))] below meth c s₁ [] 0 0 := Stand.of_body Bd
  have e0 : s₁.heap = h0 := by rw [← hh, Bd.state]; rfl
  have N0 := Fr.nil n0
  have pre0 : ∀ t, Steps p.tables e below (s₁.setTop (mkF m 0 #[rv a5_0, iv (1 : Int32)] [])) t → Steps p.tables e below (s₁.setTop (entryFrame m #[(.ref a5_0), (.int (1 : Int32))] 2)) t := fun t k => castTop (ef_rm_er0 m a5_0 (1 : Int32)) k
  have wo2 := hw _ (List.mem_of_getElem? (i := 2) rfl)
  have wo13 := hw _ (List.mem_of_getElem? (i := 13) rfl)
  have wo16 := hw _ (List.mem_of_getElem? (i := 16) rfl)
  have wo17 := hw _ (List.mem_of_getElem? (i := 17) rfl)
  have wo27 := hw _ (List.mem_of_getElem? (i := 27) rfl)
  have wo28 := hw _ (List.mem_of_getElem? (i := 28) rfl)
  have wo29 := hw _ (List.mem_of_getElem? (i := 29) rfl)
  have wo30 := hw _ (List.mem_of_getElem? (i := 30) rfl)
  have wo31 := hw _ (List.mem_of_getElem? (i := 31) rfl)
  have wo32 := hw _ (List.mem_of_getElem? (i := 32) rfl)
  have wo33 := hw _ (List.mem_of_getElem? (i := 33) rfl)
  have wo34 := hw _ (List.mem_of_getElem? (i := 34) rfl)
  have wo35 := hw _ (List.mem_of_getElem? (i := 35) rfl)
  obtain ⟨T1, X1, e1, st1⟩ := getF X0 hx hZ hown (host := "") (Or.inl wo16) Via.refl e0 pf_F_a5_0_bytes (g := (mkF m 2 #[rv a5_0, iv (1 : Int32)] [(.ref a5_0), (.int (1 : Int32))])) rfl rfl (hb hby d5_2)
  obtain ⟨re2, kk2, cl2, Ar2, qq2, Sz2, Nn2, Hs2, Gf2⟩ := id pf_X_ar
  obtain ⟨T3, X3, e3, st3⟩ := getF X1 hx hZ hown (host := "") (Or.inl wo27) Via.refl e1 pf_F_a5_0_size (g := (mkF m 7 #[rv a5_0, iv (1 : Int32)] [(.ref a5_0), (.int ln), (.int (1 : Int32))])) rfl rfl (hb hby d5_7)
  have pre5 : ∀ t, Steps p.tables e below (T3.setTop (mkF m 11 #[rv a5_0, iv (1 : Int32)] [(.int (ln - (0 : Int32))), (.int (1 : Int32))])) t → Steps p.tables e below (s₁.setTop (entryFrame m #[(.ref a5_0), (.int (1 : Int32))] 2)) t := by
    intro t_ k_
    refine pre0 _ ?_
    show Steps p.tables e below (s₁.setTop (mkF m 0 #[rv a5_0, iv (1 : Int32)] [])) _
    refine XS.iloadN X0.here hx rfl (hb hby d5_0) rfl ?_
    refine XS.aloadN X0.here hx rfl (hb hby d5_1) rfl rfl ?_
    show Steps p.tables e below (s₁.setTop (mkF m 2 #[rv a5_0, iv (1 : Int32)] [(.ref a5_0), (.int (1 : Int32))])) _
    refine st1 _ ?_
    show Steps p.tables e below (T1.setTop (mkF m 5 #[rv a5_0, iv (1 : Int32)] [(.ref ar), (.int (1 : Int32))])) _
    refine X1.arraylength hx (by rw [e1]; exact Ar2.1) (State.isArrayOf_alike hZ.alike Ar2.2.1) (g := (mkF m 5 #[rv a5_0, iv (1 : Int32)] [(.ref ar), (.int (1 : Int32))])) rfl rfl (hb hby d5_5) _ ?_
    rw [len_of Sz2 Nn2]
    show Steps p.tables e below (T1.setTop (mkF m 6 #[rv a5_0, iv (1 : Int32)] [(.int ln), (.int (1 : Int32))])) _
    refine XS.aloadN X1.here hx rfl (hb hby d5_6) rfl rfl ?_
    show Steps p.tables e below (T1.setTop (mkF m 7 #[rv a5_0, iv (1 : Int32)] [(.ref a5_0), (.int ln), (.int (1 : Int32))])) _
    refine st3 _ ?_
    show Steps p.tables e below (T3.setTop (mkF m 10 #[rv a5_0, iv (1 : Int32)] [(.int (0 : Int32)), (.int ln), (.int (1 : Int32))])) _
    refine XS.isub X3.here hx rfl (hb hby d5_10) rfl ?_
    exact k_
  by_cases hc11_4 : (ln - (0 : Int32)) < (1 : Int32)
  · skip
    have pre6 : ∀ t, Steps p.tables e below (T3.setTop (mkF m 14 #[rv a5_0, iv (1 : Int32)] [])) t → Steps p.tables e below (s₁.setTop (entryFrame m #[(.ref a5_0), (.int (1 : Int32))] 2)) t := by
      intro t_ k_
      refine pre5 _ ?_
      show Steps p.tables e below (T3.setTop (mkF m 11 #[rv a5_0, iv (1 : Int32)] [(.int (ln - (0 : Int32))), (.int (1 : Int32))])) _
      refine XS.icmpNo X3.here hx rfl (hb hby d5_11) rfl (tlt hc11_4).2.2.2 ?_
      exact k_
    obtain rfl : ln = (0 : Int32) := own_grow ln (0 : Int32) hle ⟨by decide, h8⟩ hc11_4
    obtain ⟨T7, X7, e7, st7⟩ := getF X3 hx hZ hown (host := "") (Or.inl wo16) Via.refl e3 pf_F_a5_0_bytes (g := (mkF m 16 #[rv a5_0, iv (1 : Int32)] [(.ref a5_0), (.ref a5_0)])) rfl rfl (hb hby d5_16)
    obtain ⟨T8, X8, e8, st8⟩ := getF X7 hx hZ hown (host := "") (Or.inl wo16) Via.refl e7 pf_F_a5_0_bytes (g := (mkF m 21 #[rv a5_0, iv (1 : Int32)] [(.ref a5_0), (.int (2 : Int32)), (.ref ar), (.ref a5_0)])) rfl rfl (hb hby d5_21)
    obtain ⟨re9, kk9, cl9, Ar9, qq9, Sz9, Nn9, Hs9, Gf9⟩ := id pf_X_ar
    obtain ⟨T10, X10, e10, st10⟩ := getF X8 hx hZ hown (host := "") (Or.inl wo27) Via.refl e8 pf_F_a5_0_size (g := (mkF m 27 #[rv a5_0, iv (1 : Int32)] [(.ref a5_0), (.int (0 : Int32)), (.ref ar), (.ref a5_0)])) rfl rfl (hb hby d5_27)
    obtain ⟨_, _, ⟨T11, L11, k11, n11⟩, -, X11, ⟨Lc11, hQ11, l11, y11, z11⟩, st11⟩ := Jvm.LawKit.callS X10 hx (y := MN6) hown (mvT hZ wo29) (mvT hZ wo30) (mvT hZ wo13) (mvT hZ wo31) (by decide) (backOf (W := 2) (rm6 l Z a0 hw [] (0 : Int32) (1 : Int32) h0 n0 Z0 ) hZ wo31 wo13 (by decide) (by decide)) (g := (mkF m 32 #[rv a5_0, iv (1 : Int32)] [(.int (1 : Int32)), (.int (0 : Int32)), (.ref ar), (.ref a5_0)])) rfl (by rw [hml]; rfl) (argsL := [(.int (0 : Int32)), (.int (1 : Int32))]) (rest := [(.ref ar), (.ref a5_0)]) (lenOf pd_3 rfl) rfl (by show 2 * 0 + _ ≤ _; exact Nat.le_of_eq rfl) (hb hby d5_32) (fun _ _ => ⟨rfl, e10, (by decide : 0 + 0 ≤ _), (by decide : 0 + 0 ≤ _)⟩)
    dsimp only [Pt.U, Pt.locs, Pt.cells, Pt.slots] at X11 l11 y11 z11 st11 hQ11
    rw [l11, y11, z11] at X11
    obtain ⟨rfl, N11q, K11q⟩ := hQ11
    have N12 := Fr.app N0 N11q
    have q13 : (if (0 : Int32) < (1 : Int32) then (1 : Int32) else (0 : Int32)) = (1 : Int32) := (by decide)
    obtain ⟨_, _, ⟨T14, L14, k14, n14⟩, -, X14, ⟨Lc14, hQ14, l14, y14, z14⟩, st14⟩ := Jvm.LawKit.callS X11 hx (y := MN7) hown (mvT hZ wo32) (mvT hZ wo33) (mvT hZ wo34) (mvT hZ wo35) (by decide) (backOf (W := 1) (rm_cg0 l Z a0 hw [] ar h0 n0 Z0 pf_X_ar) hZ wo35 wo34 (by decide) (by decide)) (g := (mkF m 35 #[rv a5_0, iv (1 : Int32)] [(.int (1 : Int32)), (.ref ar), (.ref a5_0)])) rfl (by rw [hml]; rfl) (argsL := [(.ref ar), (.int (1 : Int32))]) (rest := [(.ref a5_0)]) (lenOf pd_7 rfl) rfl (by show 2 * 0 + _ ≤ _; exact Nat.le_of_eq rfl) (hb hby d5_35) (fun _ _ => ⟨rfl, K11q, (by decide : 0 + 1 ≤ _), (by decide : 0 + 1 ≤ _)⟩)
    dsimp only [Pt.U, Pt.locs, Pt.cells, Pt.slots] at X14 l14 y14 z14 st14 hQ14
    rw [l14, y14, z14] at X14
    obtain ⟨b_14, rfl, N14q, K14q, hq14_0, hq14_1⟩ := hQ14
    have N15 := Fr.app N12 N14q
    have ne16 : a5_0 ≠ b_14 := Nat.ne_of_lt (Nat.lt_of_lt_of_le pf_E_a5_0.lt hq14_0)
    have ne17 : ar ≠ b_14 := Nat.ne_of_lt (Nat.lt_of_lt_of_le pf_X_ar.lt hq14_0)
    have g18 : n0 ≤ b_14 := Nat.le_trans Z0 hq14_0
    have bz19 : h0.size ≤ b_14 := Nat.le_trans (Keep.refl h0 [a5_0]).1 hq14_0
    have K20 : Keep h0 T14.heap [a5_0] := (Keep.refl h0 [a5_0]).trans K14q all0
    have f21 := (pf_F_a5_0_bytes.keep K14q nin0)
    have f22 := (pf_E_a5_0.keep K14q)
    obtain ⟨T23, h23, X23, e23, W23, st23⟩ := putF X14 hx hZ hown (host := "") (Or.inl wo16) Via.refl rfl f21 f22 (Or.inl wo17) wo2 (ty := (.array .byte)) (by decide) rfl rfl (g := (mkF m 38 #[rv a5_0, iv (1 : Int32)] [(.ref b_14), (.ref a5_0)])) rfl rfl (hb hby d5_38)
    have K24 : Keep h0 h23 [a5_0] := (K20).wr W23 (Or.inl (List.mem_of_getElem? (i := 0) rfl))
    have f25 : Fld Z h23 a5_0 "com/example/dido/dido/keys/KeyWriter" "bytes" "[B" (.ref b_14) := f21.same W23
    have N26 := Fr.snoc X23 N15 pf_G_a5_0
    have f27 := ((pf_F_a5_0_size.keep K14q nin0).other W23 (Or.inr (slot_ne (Or.inl wo28) (Or.inl wo17) (by decide) (t := .int) (t' := (.array .byte)) (by decide) (by decide))))
    have f28 := (hq14_1.other W23 (Ne.symm ne16))
    obtain ⟨fs, hr, hrun, hended, hW, hsame⟩ := X23.leave (v := none) (fun _ => rfl)
    refine ⟨_, _, pre6 _ ?_, hrun, hended, _, _, rfl, ?_, ⟨_, rfl⟩, hW, hsame.mono (by decide) (by decide)⟩
    · show Steps p.tables e below (T3.setTop (mkF m 14 #[rv a5_0, iv (1 : Int32)] [])) _
      refine XS.aloadN X3.here hx rfl (hb hby d5_14) rfl rfl ?_
      show Steps p.tables e below (T3.setTop (mkF m 15 #[rv a5_0, iv (1 : Int32)] [(.ref a5_0)])) _
      refine XS.aloadN X3.here hx rfl (hb hby d5_15) rfl rfl ?_
      show Steps p.tables e below (T3.setTop (mkF m 16 #[rv a5_0, iv (1 : Int32)] [(.ref a5_0), (.ref a5_0)])) _
      refine st7 _ ?_
      show Steps p.tables e below (T7.setTop (mkF m 19 #[rv a5_0, iv (1 : Int32)] [(.ref ar), (.ref a5_0)])) _
      refine XS.iconst X7.here hx rfl (hb hby d5_19) ?_
      refine XS.aloadN X7.here hx rfl (hb hby d5_20) rfl rfl ?_
      show Steps p.tables e below (T7.setTop (mkF m 21 #[rv a5_0, iv (1 : Int32)] [(.ref a5_0), (.int (2 : Int32)), (.ref ar), (.ref a5_0)])) _
      refine st8 _ ?_
      show Steps p.tables e below (T8.setTop (mkF m 24 #[rv a5_0, iv (1 : Int32)] [(.ref ar), (.int (2 : Int32)), (.ref ar), (.ref a5_0)])) _
      refine X8.arraylength hx (by rw [e8]; exact Ar9.1) (State.isArrayOf_alike hZ.alike Ar9.2.1) (g := (mkF m 24 #[rv a5_0, iv (1 : Int32)] [(.ref ar), (.int (2 : Int32)), (.ref ar), (.ref a5_0)])) rfl rfl (hb hby d5_24) _ ?_
      rw [len_of Sz9 Nn9]
      show Steps p.tables e below (T8.setTop (mkF m 25 #[rv a5_0, iv (1 : Int32)] [(.int (0 : Int32)), (.int (2 : Int32)), (.ref ar), (.ref a5_0)])) _
      refine XS.imul X8.here hx rfl (hb hby d5_25) rfl ?_
      refine XS.aloadN X8.here hx rfl (hb hby d5_26) rfl rfl ?_
      show Steps p.tables e below (T8.setTop (mkF m 27 #[rv a5_0, iv (1 : Int32)] [(.ref a5_0), (.int (0 : Int32)), (.ref ar), (.ref a5_0)])) _
      refine st10 _ ?_
      show Steps p.tables e below (T10.setTop (mkF m 30 #[rv a5_0, iv (1 : Int32)] [(.int (0 : Int32)), (.int (0 : Int32)), (.ref ar), (.ref a5_0)])) _
      refine XS.iloadN X10.here hx rfl (hb hby d5_30) rfl ?_
      refine XS.iadd X10.here hx rfl (hb hby d5_31) rfl ?_
      show Steps p.tables e below (T10.setTop (mkF m 32 #[rv a5_0, iv (1 : Int32)] [(.int (1 : Int32)), (.int (0 : Int32)), (.ref ar), (.ref a5_0)])) _
      refine st11 _ ?_
      show Steps p.tables e below (T11.setTop (mkF m 35 #[rv a5_0, iv (1 : Int32)] [(.int (if (0 : Int32) < (1 : Int32) then (1 : Int32) else (0 : Int32))), (.ref ar), (.ref a5_0)])) _
      rw [q13]
      show Steps p.tables e below (T11.setTop (mkF m 35 #[rv a5_0, iv (1 : Int32)] [(.int (1 : Int32)), (.ref ar), (.ref a5_0)])) _
      show Steps p.tables e below (T11.setTop (mkF m 35 #[rv a5_0, iv (1 : Int32)] [(.int (1 : Int32)), (.ref ar), (.ref a5_0)])) _
      refine st14 _ ?_
      show Steps p.tables e below (T14.setTop (mkF m 38 #[rv a5_0, iv (1 : Int32)] [(.ref b_14), (.ref a5_0)])) _
      refine st23 _ ?_
      show Steps p.tables e below (T23.setTop (mkF m 41 #[rv a5_0, iv (1 : Int32)] [])) _
      exact X23.returnOut hx Bd.returns (hb hby d5_41) hr
    · show Q_rm_er0 Z _ _ _ h0 n0 _ T23.heap _
      rw [e23]
      exact ⟨b_14, (1 : Int32), rfl, N26, (K24), (Or.inr bz19), g18, ne16, f25, f27, (Av.px f28 (vs := []) (rs := _) rfl), (by decide), (by decide)⟩
  · skip
    obtain ⟨fs, hr, hrun, hended, hW, hsame⟩ := X3.leave (v := none) (fun _ => rfl)
    refine ⟨_, _, pre5 _ ?_, hrun, hended, _, _, rfl, ?_, ⟨_, rfl⟩, hW, hsame.mono (by decide) (by decide)⟩
    · show Steps p.tables e below (T3.setTop (mkF m 11 #[rv a5_0, iv (1 : Int32)] [(.int (ln - (0 : Int32))), (.int (1 : Int32))])) _
      refine XS.icmpYes X3.here hx rfl (pc0 := 11) (pc' := 41) rfl (hb hby d5_11) rfl (flt hc11_4).2.2.2 (by decide) (by decide) ?_
      show Steps p.tables e below (T3.setTop (mkF m 41 #[rv a5_0, iv (1 : Int32)] [])) _
      exact X3.returnOut hx Bd.returns (hb hby d5_41) hr
    · show Q_rm_er0 Z _ _ _ h0 n0 _ T3.heap _
      rw [e3]
      exact ⟨ar, ln, rfl, N0, (Keep.refl h0 [a5_0]), (Or.inl rfl), pf_G_ar, pf_NE_a5_0_ar, pf_F_a5_0_bytes, pf_F_a5_0_size, pf_X_ar, (own_room ln (0 : Int32) hle ⟨by decide, h8⟩ hc11_4), h8⟩
theorem ef_rm_er1 (m : MethodId) (x0 : Addr) (x1 : Int32) : entryFrame m #[(.ref x0), (.int x1)] 2 = mkF m 0 #[rv x0, iv x1] [] := by first | (simp [entryFrame, mkF, argsToLocals, Value.category]; done) | rfl
def Q_rm_er1 (Z : State) (a5_0 : Addr) (ar : Addr) (ln : Int32) (x0 : Int32) (h0 : Heap) (n0 : Nat) (v : Option Value) (h : Heap) (L : List Loc) : Prop := ∃ (ar2 : Addr) (ln2 : Int32), v = none ∧ Fr n0 L ∧ Keep h0 h [a5_0] ∧ (ar2 = ar ∨ h0.size ≤ ar2) ∧ (n0 ≤ ar2) ∧ (a5_0 ≠ ar2) ∧ (Fld Z h a5_0 "com/example/dido/dido/keys/KeyWriter" "bytes" "[B" (.ref ar2)) ∧ (Fld Z h a5_0 "com/example/dido/dido/keys/KeyWriter" "size" "I" (.int (1 : Int32))) ∧ (Px Z h ar2 .byte ln2 [(.int x0)]) ∧ ((1 : Int32).toInt < ln2.toInt) ∧ (ln2.toInt < 9)
set_option maxRecDepth 65536 in
set_option maxHeartbeats 40000000 in
theorem rm_er1 (l : Launch) (Z : State) (a0 : Array Value) (hw : ∀ d ∈ tables_1, d.before a0 Z = true) (ws : List Jvm.Cond) (a5_0 : Addr) (ar : Addr) (ln : Int32) (x0 : Int32) (h0 : Heap) (n0 : Nat) (Z0 : n0 ≤ h0.size) (pf_E_a5_0 : Exa Z h0 a5_0 "com/example/dido/dido/keys/KeyWriter") (pf_G_a5_0 : n0 ≤ a5_0) (pf_G_ar : n0 ≤ ar) (pf_NE_a5_0_ar : a5_0 ≠ ar) (pf_F_a5_0_bytes : Fld Z h0 a5_0 "com/example/dido/dido/keys/KeyWriter" "bytes" "[B" (.ref ar)) (pf_F_a5_0_size : Fld Z h0 a5_0 "com/example/dido/dido/keys/KeyWriter" "size" "I" (.int (1 : Int32))) (pf_X_ar : Px Z h0 ar .byte ln [(.int x0)]) (hle : (1 : Int32).toInt ≤ ln.toInt) (h8 : ln.toInt < 9) :
    MetFree l (⟨"com/example/dido/dido/keys/KeyWriter", "ensureRoom", "(I)V"⟩ : MethodName) (head1 (Jvm.Cond.code (⟨"com/example/dido/dido/keys/KeyWriter", "ensureRoom", "(I)V"⟩ : MethodName) prog_15_method_13_code 2 none :: ws) ({ frames := 2, cells := 1, slots := 2, locals := 33 } : Room)) (fun a U => a = #[(.ref a5_0), (.int (1 : Int32))] ∧ Z.Warmed39 U.vm ∧ U.heap = h0) (fun _ _ _ _ _ => True) (fun _ U o U' => ∃ v L, o = .returned v ∧ Q_rm_er1 Z a5_0 ar ln x0 h0 n0 v U'.heap L ∧ FrameEnd U o U' L ({ frames := 2, cells := 1, slots := 2, locals := 33 } : Room).cells ({ frames := 2, cells := 1, slots := 2, locals := 33 } : Room).slots) := by
  refine MetFree.of_bodySF (plainFor_of_name pn_com_example_dido_dido_keys_KeyWriter) hisR ?_
  intro p e s m args below meth c s₁ Bd hml0 hP hK
  obtain ⟨rfl, hZ, hh⟩ := hP
  have hx := Bd.exec
  have hby := Bd.bytes
  have hml : c.maxLocals = 2 := hml0
  have hown : s.vm.findClass "com/example/dido/dido/keys/KeyWriter" = some m.cls := findClass_of_methodNamed Bd.named
  have hnm := (name_of_methodNamed Bd.named Bd.method).1
  have X0 : Stand p l e ({ frames := 2, cells := 1, slots := 2, locals := 33 } : Room) s m #[(.ref a5_0), (.int (1 : Int32))] below meth c s₁ [] 0 0 := Stand.of_body Bd
  have e0 : s₁.heap = h0 := by rw [← hh, Bd.state]; rfl
  have N0 := Fr.nil n0
  have pre0 : ∀ t, Steps p.tables e below (s₁.setTop (mkF m 0 #[rv a5_0, iv (1 : Int32)] [])) t → Steps p.tables e below (s₁.setTop (entryFrame m #[(.ref a5_0), (.int (1 : Int32))] 2)) t := fun t k => castTop (ef_rm_er1 m a5_0 (1 : Int32)) k
  have wo2 := hw _ (List.mem_of_getElem? (i := 2) rfl)
  have wo13 := hw _ (List.mem_of_getElem? (i := 13) rfl)
  have wo16 := hw _ (List.mem_of_getElem? (i := 16) rfl)
  have wo17 := hw _ (List.mem_of_getElem? (i := 17) rfl)
  have wo27 := hw _ (List.mem_of_getElem? (i := 27) rfl)
  have wo28 := hw _ (List.mem_of_getElem? (i := 28) rfl)
  have wo29 := hw _ (List.mem_of_getElem? (i := 29) rfl)
  have wo30 := hw _ (List.mem_of_getElem? (i := 30) rfl)
  have wo31 := hw _ (List.mem_of_getElem? (i := 31) rfl)
  have wo32 := hw _ (List.mem_of_getElem? (i := 32) rfl)
  have wo33 := hw _ (List.mem_of_getElem? (i := 33) rfl)
  have wo34 := hw _ (List.mem_of_getElem? (i := 34) rfl)
  have wo35 := hw _ (List.mem_of_getElem? (i := 35) rfl)
  obtain ⟨T1, X1, e1, st1⟩ := getF X0 hx hZ hown (host := "") (Or.inl wo16) Via.refl e0 pf_F_a5_0_bytes (g := (mkF m 2 #[rv a5_0, iv (1 : Int32)] [(.ref a5_0), (.int (1 : Int32))])) rfl rfl (hb hby d5_2)
  obtain ⟨re2, kk2, cl2, Ar2, qq2, Sz2, Nn2, Hs2, Gf2⟩ := id pf_X_ar
  obtain ⟨T3, X3, e3, st3⟩ := getF X1 hx hZ hown (host := "") (Or.inl wo27) Via.refl e1 pf_F_a5_0_size (g := (mkF m 7 #[rv a5_0, iv (1 : Int32)] [(.ref a5_0), (.int ln), (.int (1 : Int32))])) rfl rfl (hb hby d5_7)
  have pre5 : ∀ t, Steps p.tables e below (T3.setTop (mkF m 11 #[rv a5_0, iv (1 : Int32)] [(.int (ln - (1 : Int32))), (.int (1 : Int32))])) t → Steps p.tables e below (s₁.setTop (entryFrame m #[(.ref a5_0), (.int (1 : Int32))] 2)) t := by
    intro t_ k_
    refine pre0 _ ?_
    show Steps p.tables e below (s₁.setTop (mkF m 0 #[rv a5_0, iv (1 : Int32)] [])) _
    refine XS.iloadN X0.here hx rfl (hb hby d5_0) rfl ?_
    refine XS.aloadN X0.here hx rfl (hb hby d5_1) rfl rfl ?_
    show Steps p.tables e below (s₁.setTop (mkF m 2 #[rv a5_0, iv (1 : Int32)] [(.ref a5_0), (.int (1 : Int32))])) _
    refine st1 _ ?_
    show Steps p.tables e below (T1.setTop (mkF m 5 #[rv a5_0, iv (1 : Int32)] [(.ref ar), (.int (1 : Int32))])) _
    refine X1.arraylength hx (by rw [e1]; exact Ar2.1) (State.isArrayOf_alike hZ.alike Ar2.2.1) (g := (mkF m 5 #[rv a5_0, iv (1 : Int32)] [(.ref ar), (.int (1 : Int32))])) rfl rfl (hb hby d5_5) _ ?_
    rw [len_of Sz2 Nn2]
    show Steps p.tables e below (T1.setTop (mkF m 6 #[rv a5_0, iv (1 : Int32)] [(.int ln), (.int (1 : Int32))])) _
    refine XS.aloadN X1.here hx rfl (hb hby d5_6) rfl rfl ?_
    show Steps p.tables e below (T1.setTop (mkF m 7 #[rv a5_0, iv (1 : Int32)] [(.ref a5_0), (.int ln), (.int (1 : Int32))])) _
    refine st3 _ ?_
    show Steps p.tables e below (T3.setTop (mkF m 10 #[rv a5_0, iv (1 : Int32)] [(.int (1 : Int32)), (.int ln), (.int (1 : Int32))])) _
    refine XS.isub X3.here hx rfl (hb hby d5_10) rfl ?_
    exact k_
  by_cases hc11_4 : (ln - (1 : Int32)) < (1 : Int32)
  · skip
    have pre6 : ∀ t, Steps p.tables e below (T3.setTop (mkF m 14 #[rv a5_0, iv (1 : Int32)] [])) t → Steps p.tables e below (s₁.setTop (entryFrame m #[(.ref a5_0), (.int (1 : Int32))] 2)) t := by
      intro t_ k_
      refine pre5 _ ?_
      show Steps p.tables e below (T3.setTop (mkF m 11 #[rv a5_0, iv (1 : Int32)] [(.int (ln - (1 : Int32))), (.int (1 : Int32))])) _
      refine XS.icmpNo X3.here hx rfl (hb hby d5_11) rfl (tlt hc11_4).2.2.2 ?_
      exact k_
    obtain rfl : ln = (1 : Int32) := own_grow ln (1 : Int32) hle ⟨by decide, h8⟩ hc11_4
    obtain ⟨T7, X7, e7, st7⟩ := getF X3 hx hZ hown (host := "") (Or.inl wo16) Via.refl e3 pf_F_a5_0_bytes (g := (mkF m 16 #[rv a5_0, iv (1 : Int32)] [(.ref a5_0), (.ref a5_0)])) rfl rfl (hb hby d5_16)
    obtain ⟨T8, X8, e8, st8⟩ := getF X7 hx hZ hown (host := "") (Or.inl wo16) Via.refl e7 pf_F_a5_0_bytes (g := (mkF m 21 #[rv a5_0, iv (1 : Int32)] [(.ref a5_0), (.int (2 : Int32)), (.ref ar), (.ref a5_0)])) rfl rfl (hb hby d5_21)
    obtain ⟨re9, kk9, cl9, Ar9, qq9, Sz9, Nn9, Hs9, Gf9⟩ := id pf_X_ar
    obtain ⟨T10, X10, e10, st10⟩ := getF X8 hx hZ hown (host := "") (Or.inl wo27) Via.refl e8 pf_F_a5_0_size (g := (mkF m 27 #[rv a5_0, iv (1 : Int32)] [(.ref a5_0), (.int (2 : Int32)), (.ref ar), (.ref a5_0)])) rfl rfl (hb hby d5_27)
    obtain ⟨_, _, ⟨T11, L11, k11, n11⟩, -, X11, ⟨Lc11, hQ11, l11, y11, z11⟩, st11⟩ := Jvm.LawKit.callS X10 hx (y := MN6) hown (mvT hZ wo29) (mvT hZ wo30) (mvT hZ wo13) (mvT hZ wo31) (by decide) (backOf (W := 2) (rm6 l Z a0 hw [] (2 : Int32) (2 : Int32) h0 n0 Z0 ) hZ wo31 wo13 (by decide) (by decide)) (g := (mkF m 32 #[rv a5_0, iv (1 : Int32)] [(.int (2 : Int32)), (.int (2 : Int32)), (.ref ar), (.ref a5_0)])) rfl (by rw [hml]; rfl) (argsL := [(.int (2 : Int32)), (.int (2 : Int32))]) (rest := [(.ref ar), (.ref a5_0)]) (lenOf pd_3 rfl) rfl (by show 2 * 0 + _ ≤ _; exact Nat.le_of_eq rfl) (hb hby d5_32) (fun _ _ => ⟨rfl, e10, (by decide : 0 + 0 ≤ _), (by decide : 0 + 0 ≤ _)⟩)
    dsimp only [Pt.U, Pt.locs, Pt.cells, Pt.slots] at X11 l11 y11 z11 st11 hQ11
    rw [l11, y11, z11] at X11
    obtain ⟨rfl, N11q, K11q⟩ := hQ11
    have N12 := Fr.app N0 N11q
    have q13 : (if (2 : Int32) < (2 : Int32) then (2 : Int32) else (2 : Int32)) = (2 : Int32) := (by decide)
    obtain ⟨_, _, ⟨T14, L14, k14, n14⟩, -, X14, ⟨Lc14, hQ14, l14, y14, z14⟩, st14⟩ := Jvm.LawKit.callS X11 hx (y := MN7) hown (mvT hZ wo32) (mvT hZ wo33) (mvT hZ wo34) (mvT hZ wo35) (by decide) (backOf (W := 1) (rm_cg1 l Z a0 hw [] ar x0 h0 n0 Z0 pf_X_ar) hZ wo35 wo34 (by decide) (by decide)) (g := (mkF m 35 #[rv a5_0, iv (1 : Int32)] [(.int (2 : Int32)), (.ref ar), (.ref a5_0)])) rfl (by rw [hml]; rfl) (argsL := [(.ref ar), (.int (2 : Int32))]) (rest := [(.ref a5_0)]) (lenOf pd_7 rfl) rfl (by show 2 * 0 + _ ≤ _; exact Nat.le_of_eq rfl) (hb hby d5_35) (fun _ _ => ⟨rfl, K11q, (by decide : 0 + 1 ≤ _), (by decide : 0 + 2 ≤ _)⟩)
    dsimp only [Pt.U, Pt.locs, Pt.cells, Pt.slots] at X14 l14 y14 z14 st14 hQ14
    rw [l14, y14, z14] at X14
    obtain ⟨b_14, rfl, N14q, K14q, hq14_0, hq14_1⟩ := hQ14
    have N15 := Fr.app N12 N14q
    have ne16 : a5_0 ≠ b_14 := Nat.ne_of_lt (Nat.lt_of_lt_of_le pf_E_a5_0.lt hq14_0)
    have ne17 : ar ≠ b_14 := Nat.ne_of_lt (Nat.lt_of_lt_of_le pf_X_ar.lt hq14_0)
    have g18 : n0 ≤ b_14 := Nat.le_trans Z0 hq14_0
    have bz19 : h0.size ≤ b_14 := Nat.le_trans (Keep.refl h0 [a5_0]).1 hq14_0
    have K20 : Keep h0 T14.heap [a5_0] := (Keep.refl h0 [a5_0]).trans K14q all0
    have f21 := (pf_F_a5_0_bytes.keep K14q nin0)
    have f22 := (pf_E_a5_0.keep K14q)
    obtain ⟨T23, h23, X23, e23, W23, st23⟩ := putF X14 hx hZ hown (host := "") (Or.inl wo16) Via.refl rfl f21 f22 (Or.inl wo17) wo2 (ty := (.array .byte)) (by decide) rfl rfl (g := (mkF m 38 #[rv a5_0, iv (1 : Int32)] [(.ref b_14), (.ref a5_0)])) rfl rfl (hb hby d5_38)
    have K24 : Keep h0 h23 [a5_0] := (K20).wr W23 (Or.inl (List.mem_of_getElem? (i := 0) rfl))
    have f25 : Fld Z h23 a5_0 "com/example/dido/dido/keys/KeyWriter" "bytes" "[B" (.ref b_14) := f21.same W23
    have N26 := Fr.snoc X23 N15 pf_G_a5_0
    have f27 := ((pf_F_a5_0_size.keep K14q nin0).other W23 (Or.inr (slot_ne (Or.inl wo28) (Or.inl wo17) (by decide) (t := .int) (t' := (.array .byte)) (by decide) (by decide))))
    have f28 := (hq14_1.other W23 (Ne.symm ne16))
    obtain ⟨fs, hr, hrun, hended, hW, hsame⟩ := X23.leave (v := none) (fun _ => rfl)
    refine ⟨_, _, pre6 _ ?_, hrun, hended, _, _, rfl, ?_, ⟨_, rfl⟩, hW, hsame.mono (by decide) (by decide)⟩
    · show Steps p.tables e below (T3.setTop (mkF m 14 #[rv a5_0, iv (1 : Int32)] [])) _
      refine XS.aloadN X3.here hx rfl (hb hby d5_14) rfl rfl ?_
      show Steps p.tables e below (T3.setTop (mkF m 15 #[rv a5_0, iv (1 : Int32)] [(.ref a5_0)])) _
      refine XS.aloadN X3.here hx rfl (hb hby d5_15) rfl rfl ?_
      show Steps p.tables e below (T3.setTop (mkF m 16 #[rv a5_0, iv (1 : Int32)] [(.ref a5_0), (.ref a5_0)])) _
      refine st7 _ ?_
      show Steps p.tables e below (T7.setTop (mkF m 19 #[rv a5_0, iv (1 : Int32)] [(.ref ar), (.ref a5_0)])) _
      refine XS.iconst X7.here hx rfl (hb hby d5_19) ?_
      refine XS.aloadN X7.here hx rfl (hb hby d5_20) rfl rfl ?_
      show Steps p.tables e below (T7.setTop (mkF m 21 #[rv a5_0, iv (1 : Int32)] [(.ref a5_0), (.int (2 : Int32)), (.ref ar), (.ref a5_0)])) _
      refine st8 _ ?_
      show Steps p.tables e below (T8.setTop (mkF m 24 #[rv a5_0, iv (1 : Int32)] [(.ref ar), (.int (2 : Int32)), (.ref ar), (.ref a5_0)])) _
      refine X8.arraylength hx (by rw [e8]; exact Ar9.1) (State.isArrayOf_alike hZ.alike Ar9.2.1) (g := (mkF m 24 #[rv a5_0, iv (1 : Int32)] [(.ref ar), (.int (2 : Int32)), (.ref ar), (.ref a5_0)])) rfl rfl (hb hby d5_24) _ ?_
      rw [len_of Sz9 Nn9]
      show Steps p.tables e below (T8.setTop (mkF m 25 #[rv a5_0, iv (1 : Int32)] [(.int (1 : Int32)), (.int (2 : Int32)), (.ref ar), (.ref a5_0)])) _
      refine XS.imul X8.here hx rfl (hb hby d5_25) rfl ?_
      refine XS.aloadN X8.here hx rfl (hb hby d5_26) rfl rfl ?_
      show Steps p.tables e below (T8.setTop (mkF m 27 #[rv a5_0, iv (1 : Int32)] [(.ref a5_0), (.int (2 : Int32)), (.ref ar), (.ref a5_0)])) _
      refine st10 _ ?_
      show Steps p.tables e below (T10.setTop (mkF m 30 #[rv a5_0, iv (1 : Int32)] [(.int (1 : Int32)), (.int (2 : Int32)), (.ref ar), (.ref a5_0)])) _
      refine XS.iloadN X10.here hx rfl (hb hby d5_30) rfl ?_
      refine XS.iadd X10.here hx rfl (hb hby d5_31) rfl ?_
      show Steps p.tables e below (T10.setTop (mkF m 32 #[rv a5_0, iv (1 : Int32)] [(.int (2 : Int32)), (.int (2 : Int32)), (.ref ar), (.ref a5_0)])) _
      refine st11 _ ?_
      show Steps p.tables e below (T11.setTop (mkF m 35 #[rv a5_0, iv (1 : Int32)] [(.int (if (2 : Int32) < (2 : Int32) then (2 : Int32) else (2 : Int32))), (.ref ar), (.ref a5_0)])) _
      rw [q13]
      show Steps p.tables e below (T11.setTop (mkF m 35 #[rv a5_0, iv (1 : Int32)] [(.int (2 : Int32)), (.ref ar), (.ref a5_0)])) _
      show Steps p.tables e below (T11.setTop (mkF m 35 #[rv a5_0, iv (1 : Int32)] [(.int (2 : Int32)), (.ref ar), (.ref a5_0)])) _
      refine st14 _ ?_
      show Steps p.tables e below (T14.setTop (mkF m 38 #[rv a5_0, iv (1 : Int32)] [(.ref b_14), (.ref a5_0)])) _
      refine st23 _ ?_
      show Steps p.tables e below (T23.setTop (mkF m 41 #[rv a5_0, iv (1 : Int32)] [])) _
      exact X23.returnOut hx Bd.returns (hb hby d5_41) hr
    · show Q_rm_er1 Z _ _ _ _ h0 n0 _ T23.heap _
      rw [e23]
      exact ⟨b_14, (2 : Int32), rfl, N26, (K24), (Or.inr bz19), g18, ne16, f25, f27, (Av.px f28 (vs := [(.int x0)]) (rs := _) rfl), (by decide), (by decide)⟩
  · skip
    obtain ⟨fs, hr, hrun, hended, hW, hsame⟩ := X3.leave (v := none) (fun _ => rfl)
    refine ⟨_, _, pre5 _ ?_, hrun, hended, _, _, rfl, ?_, ⟨_, rfl⟩, hW, hsame.mono (by decide) (by decide)⟩
    · show Steps p.tables e below (T3.setTop (mkF m 11 #[rv a5_0, iv (1 : Int32)] [(.int (ln - (1 : Int32))), (.int (1 : Int32))])) _
      refine XS.icmpYes X3.here hx rfl (pc0 := 11) (pc' := 41) rfl (hb hby d5_11) rfl (flt hc11_4).2.2.2 (by decide) (by decide) ?_
      show Steps p.tables e below (T3.setTop (mkF m 41 #[rv a5_0, iv (1 : Int32)] [])) _
      exact X3.returnOut hx Bd.returns (hb hby d5_41) hr
    · show Q_rm_er1 Z _ _ _ _ h0 n0 _ T3.heap _
      rw [e3]
      exact ⟨ar, ln, rfl, N0, (Keep.refl h0 [a5_0]), (Or.inl rfl), pf_G_ar, pf_NE_a5_0_ar, pf_F_a5_0_bytes, pf_F_a5_0_size, pf_X_ar, (own_room ln (1 : Int32) hle ⟨by decide, h8⟩ hc11_4), h8⟩
theorem ef_rm_er2 (m : MethodId) (x0 : Addr) (x1 : Int32) : entryFrame m #[(.ref x0), (.int x1)] 2 = mkF m 0 #[rv x0, iv x1] [] := by first | (simp [entryFrame, mkF, argsToLocals, Value.category]; done) | rfl
def Q_rm_er2 (Z : State) (a5_0 : Addr) (ar : Addr) (ln : Int32) (x0 : Int32) (x1 : Int32) (h0 : Heap) (n0 : Nat) (v : Option Value) (h : Heap) (L : List Loc) : Prop := ∃ (ar2 : Addr) (ln2 : Int32), v = none ∧ Fr n0 L ∧ Keep h0 h [a5_0] ∧ (ar2 = ar ∨ h0.size ≤ ar2) ∧ (n0 ≤ ar2) ∧ (a5_0 ≠ ar2) ∧ (Fld Z h a5_0 "com/example/dido/dido/keys/KeyWriter" "bytes" "[B" (.ref ar2)) ∧ (Fld Z h a5_0 "com/example/dido/dido/keys/KeyWriter" "size" "I" (.int (2 : Int32))) ∧ (Px Z h ar2 .byte ln2 [(.int x0), (.int x1)]) ∧ ((2 : Int32).toInt < ln2.toInt) ∧ (ln2.toInt < 9)
set_option maxRecDepth 65536 in
set_option maxHeartbeats 40000000 in
theorem rm_er2 (l : Launch) (Z : State) (a0 : Array Value) (hw : ∀ d ∈ tables_1, d.before a0 Z = true) (ws : List Jvm.Cond) (a5_0 : Addr) (ar : Addr) (ln : Int32) (x0 : Int32) (x1 : Int32) (h0 : Heap) (n0 : Nat) (Z0 : n0 ≤ h0.size) (pf_E_a5_0 : Exa Z h0 a5_0 "com/example/dido/dido/keys/KeyWriter") (pf_G_a5_0 : n0 ≤ a5_0) (pf_G_ar : n0 ≤ ar) (pf_NE_a5_0_ar : a5_0 ≠ ar) (pf_F_a5_0_bytes : Fld Z h0 a5_0 "com/example/dido/dido/keys/KeyWriter" "bytes" "[B" (.ref ar)) (pf_F_a5_0_size : Fld Z h0 a5_0 "com/example/dido/dido/keys/KeyWriter" "size" "I" (.int (2 : Int32))) (pf_X_ar : Px Z h0 ar .byte ln [(.int x0), (.int x1)]) (hle : (2 : Int32).toInt ≤ ln.toInt) (h8 : ln.toInt < 9) :
    MetFree l (⟨"com/example/dido/dido/keys/KeyWriter", "ensureRoom", "(I)V"⟩ : MethodName) (head1 (Jvm.Cond.code (⟨"com/example/dido/dido/keys/KeyWriter", "ensureRoom", "(I)V"⟩ : MethodName) prog_15_method_13_code 2 none :: ws) ({ frames := 2, cells := 1, slots := 4, locals := 33 } : Room)) (fun a U => a = #[(.ref a5_0), (.int (1 : Int32))] ∧ Z.Warmed39 U.vm ∧ U.heap = h0) (fun _ _ _ _ _ => True) (fun _ U o U' => ∃ v L, o = .returned v ∧ Q_rm_er2 Z a5_0 ar ln x0 x1 h0 n0 v U'.heap L ∧ FrameEnd U o U' L ({ frames := 2, cells := 1, slots := 4, locals := 33 } : Room).cells ({ frames := 2, cells := 1, slots := 4, locals := 33 } : Room).slots) := by
  refine MetFree.of_bodySF (plainFor_of_name pn_com_example_dido_dido_keys_KeyWriter) hisR ?_
  intro p e s m args below meth c s₁ Bd hml0 hP hK
  obtain ⟨rfl, hZ, hh⟩ := hP
  have hx := Bd.exec
  have hby := Bd.bytes
  have hml : c.maxLocals = 2 := hml0
  have hown : s.vm.findClass "com/example/dido/dido/keys/KeyWriter" = some m.cls := findClass_of_methodNamed Bd.named
  have hnm := (name_of_methodNamed Bd.named Bd.method).1
  have X0 : Stand p l e ({ frames := 2, cells := 1, slots := 4, locals := 33 } : Room) s m #[(.ref a5_0), (.int (1 : Int32))] below meth c s₁ [] 0 0 := Stand.of_body Bd
  have e0 : s₁.heap = h0 := by rw [← hh, Bd.state]; rfl
  have N0 := Fr.nil n0
  have pre0 : ∀ t, Steps p.tables e below (s₁.setTop (mkF m 0 #[rv a5_0, iv (1 : Int32)] [])) t → Steps p.tables e below (s₁.setTop (entryFrame m #[(.ref a5_0), (.int (1 : Int32))] 2)) t := fun t k => castTop (ef_rm_er2 m a5_0 (1 : Int32)) k
  have wo2 := hw _ (List.mem_of_getElem? (i := 2) rfl)
  have wo13 := hw _ (List.mem_of_getElem? (i := 13) rfl)
  have wo16 := hw _ (List.mem_of_getElem? (i := 16) rfl)
  have wo17 := hw _ (List.mem_of_getElem? (i := 17) rfl)
  have wo27 := hw _ (List.mem_of_getElem? (i := 27) rfl)
  have wo28 := hw _ (List.mem_of_getElem? (i := 28) rfl)
  have wo29 := hw _ (List.mem_of_getElem? (i := 29) rfl)
  have wo30 := hw _ (List.mem_of_getElem? (i := 30) rfl)
  have wo31 := hw _ (List.mem_of_getElem? (i := 31) rfl)
  have wo32 := hw _ (List.mem_of_getElem? (i := 32) rfl)
  have wo33 := hw _ (List.mem_of_getElem? (i := 33) rfl)
  have wo34 := hw _ (List.mem_of_getElem? (i := 34) rfl)
  have wo35 := hw _ (List.mem_of_getElem? (i := 35) rfl)
  obtain ⟨T1, X1, e1, st1⟩ := getF X0 hx hZ hown (host := "") (Or.inl wo16) Via.refl e0 pf_F_a5_0_bytes (g := (mkF m 2 #[rv a5_0, iv (1 : Int32)] [(.ref a5_0), (.int (1 : Int32))])) rfl rfl (hb hby d5_2)
  obtain ⟨re2, kk2, cl2, Ar2, qq2, Sz2, Nn2, Hs2, Gf2⟩ := id pf_X_ar
  obtain ⟨T3, X3, e3, st3⟩ := getF X1 hx hZ hown (host := "") (Or.inl wo27) Via.refl e1 pf_F_a5_0_size (g := (mkF m 7 #[rv a5_0, iv (1 : Int32)] [(.ref a5_0), (.int ln), (.int (1 : Int32))])) rfl rfl (hb hby d5_7)
  have pre5 : ∀ t, Steps p.tables e below (T3.setTop (mkF m 11 #[rv a5_0, iv (1 : Int32)] [(.int (ln - (2 : Int32))), (.int (1 : Int32))])) t → Steps p.tables e below (s₁.setTop (entryFrame m #[(.ref a5_0), (.int (1 : Int32))] 2)) t := by
    intro t_ k_
    refine pre0 _ ?_
    show Steps p.tables e below (s₁.setTop (mkF m 0 #[rv a5_0, iv (1 : Int32)] [])) _
    refine XS.iloadN X0.here hx rfl (hb hby d5_0) rfl ?_
    refine XS.aloadN X0.here hx rfl (hb hby d5_1) rfl rfl ?_
    show Steps p.tables e below (s₁.setTop (mkF m 2 #[rv a5_0, iv (1 : Int32)] [(.ref a5_0), (.int (1 : Int32))])) _
    refine st1 _ ?_
    show Steps p.tables e below (T1.setTop (mkF m 5 #[rv a5_0, iv (1 : Int32)] [(.ref ar), (.int (1 : Int32))])) _
    refine X1.arraylength hx (by rw [e1]; exact Ar2.1) (State.isArrayOf_alike hZ.alike Ar2.2.1) (g := (mkF m 5 #[rv a5_0, iv (1 : Int32)] [(.ref ar), (.int (1 : Int32))])) rfl rfl (hb hby d5_5) _ ?_
    rw [len_of Sz2 Nn2]
    show Steps p.tables e below (T1.setTop (mkF m 6 #[rv a5_0, iv (1 : Int32)] [(.int ln), (.int (1 : Int32))])) _
    refine XS.aloadN X1.here hx rfl (hb hby d5_6) rfl rfl ?_
    show Steps p.tables e below (T1.setTop (mkF m 7 #[rv a5_0, iv (1 : Int32)] [(.ref a5_0), (.int ln), (.int (1 : Int32))])) _
    refine st3 _ ?_
    show Steps p.tables e below (T3.setTop (mkF m 10 #[rv a5_0, iv (1 : Int32)] [(.int (2 : Int32)), (.int ln), (.int (1 : Int32))])) _
    refine XS.isub X3.here hx rfl (hb hby d5_10) rfl ?_
    exact k_
  by_cases hc11_4 : (ln - (2 : Int32)) < (1 : Int32)
  · skip
    have pre6 : ∀ t, Steps p.tables e below (T3.setTop (mkF m 14 #[rv a5_0, iv (1 : Int32)] [])) t → Steps p.tables e below (s₁.setTop (entryFrame m #[(.ref a5_0), (.int (1 : Int32))] 2)) t := by
      intro t_ k_
      refine pre5 _ ?_
      show Steps p.tables e below (T3.setTop (mkF m 11 #[rv a5_0, iv (1 : Int32)] [(.int (ln - (2 : Int32))), (.int (1 : Int32))])) _
      refine XS.icmpNo X3.here hx rfl (hb hby d5_11) rfl (tlt hc11_4).2.2.2 ?_
      exact k_
    obtain rfl : ln = (2 : Int32) := own_grow ln (2 : Int32) hle ⟨by decide, h8⟩ hc11_4
    obtain ⟨T7, X7, e7, st7⟩ := getF X3 hx hZ hown (host := "") (Or.inl wo16) Via.refl e3 pf_F_a5_0_bytes (g := (mkF m 16 #[rv a5_0, iv (1 : Int32)] [(.ref a5_0), (.ref a5_0)])) rfl rfl (hb hby d5_16)
    obtain ⟨T8, X8, e8, st8⟩ := getF X7 hx hZ hown (host := "") (Or.inl wo16) Via.refl e7 pf_F_a5_0_bytes (g := (mkF m 21 #[rv a5_0, iv (1 : Int32)] [(.ref a5_0), (.int (2 : Int32)), (.ref ar), (.ref a5_0)])) rfl rfl (hb hby d5_21)
    obtain ⟨re9, kk9, cl9, Ar9, qq9, Sz9, Nn9, Hs9, Gf9⟩ := id pf_X_ar
    obtain ⟨T10, X10, e10, st10⟩ := getF X8 hx hZ hown (host := "") (Or.inl wo27) Via.refl e8 pf_F_a5_0_size (g := (mkF m 27 #[rv a5_0, iv (1 : Int32)] [(.ref a5_0), (.int (4 : Int32)), (.ref ar), (.ref a5_0)])) rfl rfl (hb hby d5_27)
    obtain ⟨_, _, ⟨T11, L11, k11, n11⟩, -, X11, ⟨Lc11, hQ11, l11, y11, z11⟩, st11⟩ := Jvm.LawKit.callS X10 hx (y := MN6) hown (mvT hZ wo29) (mvT hZ wo30) (mvT hZ wo13) (mvT hZ wo31) (by decide) (backOf (W := 2) (rm6 l Z a0 hw [] (4 : Int32) (3 : Int32) h0 n0 Z0 ) hZ wo31 wo13 (by decide) (by decide)) (g := (mkF m 32 #[rv a5_0, iv (1 : Int32)] [(.int (3 : Int32)), (.int (4 : Int32)), (.ref ar), (.ref a5_0)])) rfl (by rw [hml]; rfl) (argsL := [(.int (4 : Int32)), (.int (3 : Int32))]) (rest := [(.ref ar), (.ref a5_0)]) (lenOf pd_3 rfl) rfl (by show 2 * 0 + _ ≤ _; exact Nat.le_of_eq rfl) (hb hby d5_32) (fun _ _ => ⟨rfl, e10, (by decide : 0 + 0 ≤ _), (by decide : 0 + 0 ≤ _)⟩)
    dsimp only [Pt.U, Pt.locs, Pt.cells, Pt.slots] at X11 l11 y11 z11 st11 hQ11
    rw [l11, y11, z11] at X11
    obtain ⟨rfl, N11q, K11q⟩ := hQ11
    have N12 := Fr.app N0 N11q
    have q13 : (if (4 : Int32) < (3 : Int32) then (3 : Int32) else (4 : Int32)) = (4 : Int32) := (by decide)
    obtain ⟨_, _, ⟨T14, L14, k14, n14⟩, -, X14, ⟨Lc14, hQ14, l14, y14, z14⟩, st14⟩ := Jvm.LawKit.callS X11 hx (y := MN7) hown (mvT hZ wo32) (mvT hZ wo33) (mvT hZ wo34) (mvT hZ wo35) (by decide) (backOf (W := 1) (rm_cg2 l Z a0 hw [] ar x0 x1 h0 n0 Z0 pf_X_ar) hZ wo35 wo34 (by decide) (by decide)) (g := (mkF m 35 #[rv a5_0, iv (1 : Int32)] [(.int (4 : Int32)), (.ref ar), (.ref a5_0)])) rfl (by rw [hml]; rfl) (argsL := [(.ref ar), (.int (4 : Int32))]) (rest := [(.ref a5_0)]) (lenOf pd_7 rfl) rfl (by show 2 * 0 + _ ≤ _; exact Nat.le_of_eq rfl) (hb hby d5_35) (fun _ _ => ⟨rfl, K11q, (by decide : 0 + 1 ≤ _), (by decide : 0 + 4 ≤ _)⟩)
    dsimp only [Pt.U, Pt.locs, Pt.cells, Pt.slots] at X14 l14 y14 z14 st14 hQ14
    rw [l14, y14, z14] at X14
    obtain ⟨b_14, rfl, N14q, K14q, hq14_0, hq14_1⟩ := hQ14
    have N15 := Fr.app N12 N14q
    have ne16 : a5_0 ≠ b_14 := Nat.ne_of_lt (Nat.lt_of_lt_of_le pf_E_a5_0.lt hq14_0)
    have ne17 : ar ≠ b_14 := Nat.ne_of_lt (Nat.lt_of_lt_of_le pf_X_ar.lt hq14_0)
    have g18 : n0 ≤ b_14 := Nat.le_trans Z0 hq14_0
    have bz19 : h0.size ≤ b_14 := Nat.le_trans (Keep.refl h0 [a5_0]).1 hq14_0
    have K20 : Keep h0 T14.heap [a5_0] := (Keep.refl h0 [a5_0]).trans K14q all0
    have f21 := (pf_F_a5_0_bytes.keep K14q nin0)
    have f22 := (pf_E_a5_0.keep K14q)
    obtain ⟨T23, h23, X23, e23, W23, st23⟩ := putF X14 hx hZ hown (host := "") (Or.inl wo16) Via.refl rfl f21 f22 (Or.inl wo17) wo2 (ty := (.array .byte)) (by decide) rfl rfl (g := (mkF m 38 #[rv a5_0, iv (1 : Int32)] [(.ref b_14), (.ref a5_0)])) rfl rfl (hb hby d5_38)
    have K24 : Keep h0 h23 [a5_0] := (K20).wr W23 (Or.inl (List.mem_of_getElem? (i := 0) rfl))
    have f25 : Fld Z h23 a5_0 "com/example/dido/dido/keys/KeyWriter" "bytes" "[B" (.ref b_14) := f21.same W23
    have N26 := Fr.snoc X23 N15 pf_G_a5_0
    have f27 := ((pf_F_a5_0_size.keep K14q nin0).other W23 (Or.inr (slot_ne (Or.inl wo28) (Or.inl wo17) (by decide) (t := .int) (t' := (.array .byte)) (by decide) (by decide))))
    have f28 := (hq14_1.other W23 (Ne.symm ne16))
    obtain ⟨fs, hr, hrun, hended, hW, hsame⟩ := X23.leave (v := none) (fun _ => rfl)
    refine ⟨_, _, pre6 _ ?_, hrun, hended, _, _, rfl, ?_, ⟨_, rfl⟩, hW, hsame.mono (by decide) (by decide)⟩
    · show Steps p.tables e below (T3.setTop (mkF m 14 #[rv a5_0, iv (1 : Int32)] [])) _
      refine XS.aloadN X3.here hx rfl (hb hby d5_14) rfl rfl ?_
      show Steps p.tables e below (T3.setTop (mkF m 15 #[rv a5_0, iv (1 : Int32)] [(.ref a5_0)])) _
      refine XS.aloadN X3.here hx rfl (hb hby d5_15) rfl rfl ?_
      show Steps p.tables e below (T3.setTop (mkF m 16 #[rv a5_0, iv (1 : Int32)] [(.ref a5_0), (.ref a5_0)])) _
      refine st7 _ ?_
      show Steps p.tables e below (T7.setTop (mkF m 19 #[rv a5_0, iv (1 : Int32)] [(.ref ar), (.ref a5_0)])) _
      refine XS.iconst X7.here hx rfl (hb hby d5_19) ?_
      refine XS.aloadN X7.here hx rfl (hb hby d5_20) rfl rfl ?_
      show Steps p.tables e below (T7.setTop (mkF m 21 #[rv a5_0, iv (1 : Int32)] [(.ref a5_0), (.int (2 : Int32)), (.ref ar), (.ref a5_0)])) _
      refine st8 _ ?_
      show Steps p.tables e below (T8.setTop (mkF m 24 #[rv a5_0, iv (1 : Int32)] [(.ref ar), (.int (2 : Int32)), (.ref ar), (.ref a5_0)])) _
      refine X8.arraylength hx (by rw [e8]; exact Ar9.1) (State.isArrayOf_alike hZ.alike Ar9.2.1) (g := (mkF m 24 #[rv a5_0, iv (1 : Int32)] [(.ref ar), (.int (2 : Int32)), (.ref ar), (.ref a5_0)])) rfl rfl (hb hby d5_24) _ ?_
      rw [len_of Sz9 Nn9]
      show Steps p.tables e below (T8.setTop (mkF m 25 #[rv a5_0, iv (1 : Int32)] [(.int (2 : Int32)), (.int (2 : Int32)), (.ref ar), (.ref a5_0)])) _
      refine XS.imul X8.here hx rfl (hb hby d5_25) rfl ?_
      refine XS.aloadN X8.here hx rfl (hb hby d5_26) rfl rfl ?_
      show Steps p.tables e below (T8.setTop (mkF m 27 #[rv a5_0, iv (1 : Int32)] [(.ref a5_0), (.int (4 : Int32)), (.ref ar), (.ref a5_0)])) _
      refine st10 _ ?_
      show Steps p.tables e below (T10.setTop (mkF m 30 #[rv a5_0, iv (1 : Int32)] [(.int (2 : Int32)), (.int (4 : Int32)), (.ref ar), (.ref a5_0)])) _
      refine XS.iloadN X10.here hx rfl (hb hby d5_30) rfl ?_
      refine XS.iadd X10.here hx rfl (hb hby d5_31) rfl ?_
      show Steps p.tables e below (T10.setTop (mkF m 32 #[rv a5_0, iv (1 : Int32)] [(.int (3 : Int32)), (.int (4 : Int32)), (.ref ar), (.ref a5_0)])) _
      refine st11 _ ?_
      show Steps p.tables e below (T11.setTop (mkF m 35 #[rv a5_0, iv (1 : Int32)] [(.int (if (4 : Int32) < (3 : Int32) then (3 : Int32) else (4 : Int32))), (.ref ar), (.ref a5_0)])) _
      rw [q13]
      show Steps p.tables e below (T11.setTop (mkF m 35 #[rv a5_0, iv (1 : Int32)] [(.int (4 : Int32)), (.ref ar), (.ref a5_0)])) _
      show Steps p.tables e below (T11.setTop (mkF m 35 #[rv a5_0, iv (1 : Int32)] [(.int (4 : Int32)), (.ref ar), (.ref a5_0)])) _
      refine st14 _ ?_
      show Steps p.tables e below (T14.setTop (mkF m 38 #[rv a5_0, iv (1 : Int32)] [(.ref b_14), (.ref a5_0)])) _
      refine st23 _ ?_
      show Steps p.tables e below (T23.setTop (mkF m 41 #[rv a5_0, iv (1 : Int32)] [])) _
      exact X23.returnOut hx Bd.returns (hb hby d5_41) hr
    · show Q_rm_er2 Z _ _ _ _ _ h0 n0 _ T23.heap _
      rw [e23]
      exact ⟨b_14, (4 : Int32), rfl, N26, (K24), (Or.inr bz19), g18, ne16, f25, f27, (Av.px f28 (vs := [(.int x0), (.int x1)]) (rs := _) rfl), (by decide), (by decide)⟩
  · skip
    obtain ⟨fs, hr, hrun, hended, hW, hsame⟩ := X3.leave (v := none) (fun _ => rfl)
    refine ⟨_, _, pre5 _ ?_, hrun, hended, _, _, rfl, ?_, ⟨_, rfl⟩, hW, hsame.mono (by decide) (by decide)⟩
    · show Steps p.tables e below (T3.setTop (mkF m 11 #[rv a5_0, iv (1 : Int32)] [(.int (ln - (2 : Int32))), (.int (1 : Int32))])) _
      refine XS.icmpYes X3.here hx rfl (pc0 := 11) (pc' := 41) rfl (hb hby d5_11) rfl (flt hc11_4).2.2.2 (by decide) (by decide) ?_
      show Steps p.tables e below (T3.setTop (mkF m 41 #[rv a5_0, iv (1 : Int32)] [])) _
      exact X3.returnOut hx Bd.returns (hb hby d5_41) hr
    · show Q_rm_er2 Z _ _ _ _ _ h0 n0 _ T3.heap _
      rw [e3]
      exact ⟨ar, ln, rfl, N0, (Keep.refl h0 [a5_0]), (Or.inl rfl), pf_G_ar, pf_NE_a5_0_ar, pf_F_a5_0_bytes, pf_F_a5_0_size, pf_X_ar, (own_room ln (2 : Int32) hle ⟨by decide, h8⟩ hc11_4), h8⟩
theorem ef_rm_er3 (m : MethodId) (x0 : Addr) (x1 : Int32) : entryFrame m #[(.ref x0), (.int x1)] 2 = mkF m 0 #[rv x0, iv x1] [] := by first | (simp [entryFrame, mkF, argsToLocals, Value.category]; done) | rfl
def Q_rm_er3 (Z : State) (a5_0 : Addr) (ar : Addr) (ln : Int32) (x0 : Int32) (x1 : Int32) (x2 : Int32) (h0 : Heap) (n0 : Nat) (v : Option Value) (h : Heap) (L : List Loc) : Prop := ∃ (ar2 : Addr) (ln2 : Int32), v = none ∧ Fr n0 L ∧ Keep h0 h [a5_0] ∧ (ar2 = ar ∨ h0.size ≤ ar2) ∧ (n0 ≤ ar2) ∧ (a5_0 ≠ ar2) ∧ (Fld Z h a5_0 "com/example/dido/dido/keys/KeyWriter" "bytes" "[B" (.ref ar2)) ∧ (Fld Z h a5_0 "com/example/dido/dido/keys/KeyWriter" "size" "I" (.int (3 : Int32))) ∧ (Px Z h ar2 .byte ln2 [(.int x0), (.int x1), (.int x2)]) ∧ ((3 : Int32).toInt < ln2.toInt) ∧ (ln2.toInt < 9)
set_option maxRecDepth 65536 in
set_option maxHeartbeats 40000000 in
theorem rm_er3 (l : Launch) (Z : State) (a0 : Array Value) (hw : ∀ d ∈ tables_1, d.before a0 Z = true) (ws : List Jvm.Cond) (a5_0 : Addr) (ar : Addr) (ln : Int32) (x0 : Int32) (x1 : Int32) (x2 : Int32) (h0 : Heap) (n0 : Nat) (Z0 : n0 ≤ h0.size) (pf_E_a5_0 : Exa Z h0 a5_0 "com/example/dido/dido/keys/KeyWriter") (pf_G_a5_0 : n0 ≤ a5_0) (pf_G_ar : n0 ≤ ar) (pf_NE_a5_0_ar : a5_0 ≠ ar) (pf_F_a5_0_bytes : Fld Z h0 a5_0 "com/example/dido/dido/keys/KeyWriter" "bytes" "[B" (.ref ar)) (pf_F_a5_0_size : Fld Z h0 a5_0 "com/example/dido/dido/keys/KeyWriter" "size" "I" (.int (3 : Int32))) (pf_X_ar : Px Z h0 ar .byte ln [(.int x0), (.int x1), (.int x2)]) (hle : (3 : Int32).toInt ≤ ln.toInt) (h8 : ln.toInt < 9) :
    MetFree l (⟨"com/example/dido/dido/keys/KeyWriter", "ensureRoom", "(I)V"⟩ : MethodName) (head1 (Jvm.Cond.code (⟨"com/example/dido/dido/keys/KeyWriter", "ensureRoom", "(I)V"⟩ : MethodName) prog_15_method_13_code 2 none :: ws) ({ frames := 2, cells := 1, slots := 6, locals := 33 } : Room)) (fun a U => a = #[(.ref a5_0), (.int (1 : Int32))] ∧ Z.Warmed39 U.vm ∧ U.heap = h0) (fun _ _ _ _ _ => True) (fun _ U o U' => ∃ v L, o = .returned v ∧ Q_rm_er3 Z a5_0 ar ln x0 x1 x2 h0 n0 v U'.heap L ∧ FrameEnd U o U' L ({ frames := 2, cells := 1, slots := 6, locals := 33 } : Room).cells ({ frames := 2, cells := 1, slots := 6, locals := 33 } : Room).slots) := by
  refine MetFree.of_bodySF (plainFor_of_name pn_com_example_dido_dido_keys_KeyWriter) hisR ?_
  intro p e s m args below meth c s₁ Bd hml0 hP hK
  obtain ⟨rfl, hZ, hh⟩ := hP
  have hx := Bd.exec
  have hby := Bd.bytes
  have hml : c.maxLocals = 2 := hml0
  have hown : s.vm.findClass "com/example/dido/dido/keys/KeyWriter" = some m.cls := findClass_of_methodNamed Bd.named
  have hnm := (name_of_methodNamed Bd.named Bd.method).1
  have X0 : Stand p l e ({ frames := 2, cells := 1, slots := 6, locals := 33 } : Room) s m #[(.ref a5_0), (.int (1 : Int32))] below meth c s₁ [] 0 0 := Stand.of_body Bd
  have e0 : s₁.heap = h0 := by rw [← hh, Bd.state]; rfl
  have N0 := Fr.nil n0
  have pre0 : ∀ t, Steps p.tables e below (s₁.setTop (mkF m 0 #[rv a5_0, iv (1 : Int32)] [])) t → Steps p.tables e below (s₁.setTop (entryFrame m #[(.ref a5_0), (.int (1 : Int32))] 2)) t := fun t k => castTop (ef_rm_er3 m a5_0 (1 : Int32)) k
  have wo2 := hw _ (List.mem_of_getElem? (i := 2) rfl)
  have wo13 := hw _ (List.mem_of_getElem? (i := 13) rfl)
  have wo16 := hw _ (List.mem_of_getElem? (i := 16) rfl)
  have wo17 := hw _ (List.mem_of_getElem? (i := 17) rfl)
  have wo27 := hw _ (List.mem_of_getElem? (i := 27) rfl)
  have wo28 := hw _ (List.mem_of_getElem? (i := 28) rfl)
  have wo29 := hw _ (List.mem_of_getElem? (i := 29) rfl)
  have wo30 := hw _ (List.mem_of_getElem? (i := 30) rfl)
  have wo31 := hw _ (List.mem_of_getElem? (i := 31) rfl)
  have wo32 := hw _ (List.mem_of_getElem? (i := 32) rfl)
  have wo33 := hw _ (List.mem_of_getElem? (i := 33) rfl)
  have wo34 := hw _ (List.mem_of_getElem? (i := 34) rfl)
  have wo35 := hw _ (List.mem_of_getElem? (i := 35) rfl)
  obtain ⟨T1, X1, e1, st1⟩ := getF X0 hx hZ hown (host := "") (Or.inl wo16) Via.refl e0 pf_F_a5_0_bytes (g := (mkF m 2 #[rv a5_0, iv (1 : Int32)] [(.ref a5_0), (.int (1 : Int32))])) rfl rfl (hb hby d5_2)
  obtain ⟨re2, kk2, cl2, Ar2, qq2, Sz2, Nn2, Hs2, Gf2⟩ := id pf_X_ar
  obtain ⟨T3, X3, e3, st3⟩ := getF X1 hx hZ hown (host := "") (Or.inl wo27) Via.refl e1 pf_F_a5_0_size (g := (mkF m 7 #[rv a5_0, iv (1 : Int32)] [(.ref a5_0), (.int ln), (.int (1 : Int32))])) rfl rfl (hb hby d5_7)
  have pre5 : ∀ t, Steps p.tables e below (T3.setTop (mkF m 11 #[rv a5_0, iv (1 : Int32)] [(.int (ln - (3 : Int32))), (.int (1 : Int32))])) t → Steps p.tables e below (s₁.setTop (entryFrame m #[(.ref a5_0), (.int (1 : Int32))] 2)) t := by
    intro t_ k_
    refine pre0 _ ?_
    show Steps p.tables e below (s₁.setTop (mkF m 0 #[rv a5_0, iv (1 : Int32)] [])) _
    refine XS.iloadN X0.here hx rfl (hb hby d5_0) rfl ?_
    refine XS.aloadN X0.here hx rfl (hb hby d5_1) rfl rfl ?_
    show Steps p.tables e below (s₁.setTop (mkF m 2 #[rv a5_0, iv (1 : Int32)] [(.ref a5_0), (.int (1 : Int32))])) _
    refine st1 _ ?_
    show Steps p.tables e below (T1.setTop (mkF m 5 #[rv a5_0, iv (1 : Int32)] [(.ref ar), (.int (1 : Int32))])) _
    refine X1.arraylength hx (by rw [e1]; exact Ar2.1) (State.isArrayOf_alike hZ.alike Ar2.2.1) (g := (mkF m 5 #[rv a5_0, iv (1 : Int32)] [(.ref ar), (.int (1 : Int32))])) rfl rfl (hb hby d5_5) _ ?_
    rw [len_of Sz2 Nn2]
    show Steps p.tables e below (T1.setTop (mkF m 6 #[rv a5_0, iv (1 : Int32)] [(.int ln), (.int (1 : Int32))])) _
    refine XS.aloadN X1.here hx rfl (hb hby d5_6) rfl rfl ?_
    show Steps p.tables e below (T1.setTop (mkF m 7 #[rv a5_0, iv (1 : Int32)] [(.ref a5_0), (.int ln), (.int (1 : Int32))])) _
    refine st3 _ ?_
    show Steps p.tables e below (T3.setTop (mkF m 10 #[rv a5_0, iv (1 : Int32)] [(.int (3 : Int32)), (.int ln), (.int (1 : Int32))])) _
    refine XS.isub X3.here hx rfl (hb hby d5_10) rfl ?_
    exact k_
  by_cases hc11_4 : (ln - (3 : Int32)) < (1 : Int32)
  · skip
    have pre6 : ∀ t, Steps p.tables e below (T3.setTop (mkF m 14 #[rv a5_0, iv (1 : Int32)] [])) t → Steps p.tables e below (s₁.setTop (entryFrame m #[(.ref a5_0), (.int (1 : Int32))] 2)) t := by
      intro t_ k_
      refine pre5 _ ?_
      show Steps p.tables e below (T3.setTop (mkF m 11 #[rv a5_0, iv (1 : Int32)] [(.int (ln - (3 : Int32))), (.int (1 : Int32))])) _
      refine XS.icmpNo X3.here hx rfl (hb hby d5_11) rfl (tlt hc11_4).2.2.2 ?_
      exact k_
    obtain rfl : ln = (3 : Int32) := own_grow ln (3 : Int32) hle ⟨by decide, h8⟩ hc11_4
    obtain ⟨T7, X7, e7, st7⟩ := getF X3 hx hZ hown (host := "") (Or.inl wo16) Via.refl e3 pf_F_a5_0_bytes (g := (mkF m 16 #[rv a5_0, iv (1 : Int32)] [(.ref a5_0), (.ref a5_0)])) rfl rfl (hb hby d5_16)
    obtain ⟨T8, X8, e8, st8⟩ := getF X7 hx hZ hown (host := "") (Or.inl wo16) Via.refl e7 pf_F_a5_0_bytes (g := (mkF m 21 #[rv a5_0, iv (1 : Int32)] [(.ref a5_0), (.int (2 : Int32)), (.ref ar), (.ref a5_0)])) rfl rfl (hb hby d5_21)
    obtain ⟨re9, kk9, cl9, Ar9, qq9, Sz9, Nn9, Hs9, Gf9⟩ := id pf_X_ar
    obtain ⟨T10, X10, e10, st10⟩ := getF X8 hx hZ hown (host := "") (Or.inl wo27) Via.refl e8 pf_F_a5_0_size (g := (mkF m 27 #[rv a5_0, iv (1 : Int32)] [(.ref a5_0), (.int (6 : Int32)), (.ref ar), (.ref a5_0)])) rfl rfl (hb hby d5_27)
    obtain ⟨_, _, ⟨T11, L11, k11, n11⟩, -, X11, ⟨Lc11, hQ11, l11, y11, z11⟩, st11⟩ := Jvm.LawKit.callS X10 hx (y := MN6) hown (mvT hZ wo29) (mvT hZ wo30) (mvT hZ wo13) (mvT hZ wo31) (by decide) (backOf (W := 2) (rm6 l Z a0 hw [] (6 : Int32) (4 : Int32) h0 n0 Z0 ) hZ wo31 wo13 (by decide) (by decide)) (g := (mkF m 32 #[rv a5_0, iv (1 : Int32)] [(.int (4 : Int32)), (.int (6 : Int32)), (.ref ar), (.ref a5_0)])) rfl (by rw [hml]; rfl) (argsL := [(.int (6 : Int32)), (.int (4 : Int32))]) (rest := [(.ref ar), (.ref a5_0)]) (lenOf pd_3 rfl) rfl (by show 2 * 0 + _ ≤ _; exact Nat.le_of_eq rfl) (hb hby d5_32) (fun _ _ => ⟨rfl, e10, (by decide : 0 + 0 ≤ _), (by decide : 0 + 0 ≤ _)⟩)
    dsimp only [Pt.U, Pt.locs, Pt.cells, Pt.slots] at X11 l11 y11 z11 st11 hQ11
    rw [l11, y11, z11] at X11
    obtain ⟨rfl, N11q, K11q⟩ := hQ11
    have N12 := Fr.app N0 N11q
    have q13 : (if (6 : Int32) < (4 : Int32) then (4 : Int32) else (6 : Int32)) = (6 : Int32) := (by decide)
    obtain ⟨_, _, ⟨T14, L14, k14, n14⟩, -, X14, ⟨Lc14, hQ14, l14, y14, z14⟩, st14⟩ := Jvm.LawKit.callS X11 hx (y := MN7) hown (mvT hZ wo32) (mvT hZ wo33) (mvT hZ wo34) (mvT hZ wo35) (by decide) (backOf (W := 1) (rm_cg3 l Z a0 hw [] ar x0 x1 x2 h0 n0 Z0 pf_X_ar) hZ wo35 wo34 (by decide) (by decide)) (g := (mkF m 35 #[rv a5_0, iv (1 : Int32)] [(.int (6 : Int32)), (.ref ar), (.ref a5_0)])) rfl (by rw [hml]; rfl) (argsL := [(.ref ar), (.int (6 : Int32))]) (rest := [(.ref a5_0)]) (lenOf pd_7 rfl) rfl (by show 2 * 0 + _ ≤ _; exact Nat.le_of_eq rfl) (hb hby d5_35) (fun _ _ => ⟨rfl, K11q, (by decide : 0 + 1 ≤ _), (by decide : 0 + 6 ≤ _)⟩)
    dsimp only [Pt.U, Pt.locs, Pt.cells, Pt.slots] at X14 l14 y14 z14 st14 hQ14
    rw [l14, y14, z14] at X14
    obtain ⟨b_14, rfl, N14q, K14q, hq14_0, hq14_1⟩ := hQ14
    have N15 := Fr.app N12 N14q
    have ne16 : a5_0 ≠ b_14 := Nat.ne_of_lt (Nat.lt_of_lt_of_le pf_E_a5_0.lt hq14_0)
    have ne17 : ar ≠ b_14 := Nat.ne_of_lt (Nat.lt_of_lt_of_le pf_X_ar.lt hq14_0)
    have g18 : n0 ≤ b_14 := Nat.le_trans Z0 hq14_0
    have bz19 : h0.size ≤ b_14 := Nat.le_trans (Keep.refl h0 [a5_0]).1 hq14_0
    have K20 : Keep h0 T14.heap [a5_0] := (Keep.refl h0 [a5_0]).trans K14q all0
    have f21 := (pf_F_a5_0_bytes.keep K14q nin0)
    have f22 := (pf_E_a5_0.keep K14q)
    obtain ⟨T23, h23, X23, e23, W23, st23⟩ := putF X14 hx hZ hown (host := "") (Or.inl wo16) Via.refl rfl f21 f22 (Or.inl wo17) wo2 (ty := (.array .byte)) (by decide) rfl rfl (g := (mkF m 38 #[rv a5_0, iv (1 : Int32)] [(.ref b_14), (.ref a5_0)])) rfl rfl (hb hby d5_38)
    have K24 : Keep h0 h23 [a5_0] := (K20).wr W23 (Or.inl (List.mem_of_getElem? (i := 0) rfl))
    have f25 : Fld Z h23 a5_0 "com/example/dido/dido/keys/KeyWriter" "bytes" "[B" (.ref b_14) := f21.same W23
    have N26 := Fr.snoc X23 N15 pf_G_a5_0
    have f27 := ((pf_F_a5_0_size.keep K14q nin0).other W23 (Or.inr (slot_ne (Or.inl wo28) (Or.inl wo17) (by decide) (t := .int) (t' := (.array .byte)) (by decide) (by decide))))
    have f28 := (hq14_1.other W23 (Ne.symm ne16))
    obtain ⟨fs, hr, hrun, hended, hW, hsame⟩ := X23.leave (v := none) (fun _ => rfl)
    refine ⟨_, _, pre6 _ ?_, hrun, hended, _, _, rfl, ?_, ⟨_, rfl⟩, hW, hsame.mono (by decide) (by decide)⟩
    · show Steps p.tables e below (T3.setTop (mkF m 14 #[rv a5_0, iv (1 : Int32)] [])) _
      refine XS.aloadN X3.here hx rfl (hb hby d5_14) rfl rfl ?_
      show Steps p.tables e below (T3.setTop (mkF m 15 #[rv a5_0, iv (1 : Int32)] [(.ref a5_0)])) _
      refine XS.aloadN X3.here hx rfl (hb hby d5_15) rfl rfl ?_
      show Steps p.tables e below (T3.setTop (mkF m 16 #[rv a5_0, iv (1 : Int32)] [(.ref a5_0), (.ref a5_0)])) _
      refine st7 _ ?_
      show Steps p.tables e below (T7.setTop (mkF m 19 #[rv a5_0, iv (1 : Int32)] [(.ref ar), (.ref a5_0)])) _
      refine XS.iconst X7.here hx rfl (hb hby d5_19) ?_
      refine XS.aloadN X7.here hx rfl (hb hby d5_20) rfl rfl ?_
      show Steps p.tables e below (T7.setTop (mkF m 21 #[rv a5_0, iv (1 : Int32)] [(.ref a5_0), (.int (2 : Int32)), (.ref ar), (.ref a5_0)])) _
      refine st8 _ ?_
      show Steps p.tables e below (T8.setTop (mkF m 24 #[rv a5_0, iv (1 : Int32)] [(.ref ar), (.int (2 : Int32)), (.ref ar), (.ref a5_0)])) _
      refine X8.arraylength hx (by rw [e8]; exact Ar9.1) (State.isArrayOf_alike hZ.alike Ar9.2.1) (g := (mkF m 24 #[rv a5_0, iv (1 : Int32)] [(.ref ar), (.int (2 : Int32)), (.ref ar), (.ref a5_0)])) rfl rfl (hb hby d5_24) _ ?_
      rw [len_of Sz9 Nn9]
      show Steps p.tables e below (T8.setTop (mkF m 25 #[rv a5_0, iv (1 : Int32)] [(.int (3 : Int32)), (.int (2 : Int32)), (.ref ar), (.ref a5_0)])) _
      refine XS.imul X8.here hx rfl (hb hby d5_25) rfl ?_
      refine XS.aloadN X8.here hx rfl (hb hby d5_26) rfl rfl ?_
      show Steps p.tables e below (T8.setTop (mkF m 27 #[rv a5_0, iv (1 : Int32)] [(.ref a5_0), (.int (6 : Int32)), (.ref ar), (.ref a5_0)])) _
      refine st10 _ ?_
      show Steps p.tables e below (T10.setTop (mkF m 30 #[rv a5_0, iv (1 : Int32)] [(.int (3 : Int32)), (.int (6 : Int32)), (.ref ar), (.ref a5_0)])) _
      refine XS.iloadN X10.here hx rfl (hb hby d5_30) rfl ?_
      refine XS.iadd X10.here hx rfl (hb hby d5_31) rfl ?_
      show Steps p.tables e below (T10.setTop (mkF m 32 #[rv a5_0, iv (1 : Int32)] [(.int (4 : Int32)), (.int (6 : Int32)), (.ref ar), (.ref a5_0)])) _
      refine st11 _ ?_
      show Steps p.tables e below (T11.setTop (mkF m 35 #[rv a5_0, iv (1 : Int32)] [(.int (if (6 : Int32) < (4 : Int32) then (4 : Int32) else (6 : Int32))), (.ref ar), (.ref a5_0)])) _
      rw [q13]
      show Steps p.tables e below (T11.setTop (mkF m 35 #[rv a5_0, iv (1 : Int32)] [(.int (6 : Int32)), (.ref ar), (.ref a5_0)])) _
      show Steps p.tables e below (T11.setTop (mkF m 35 #[rv a5_0, iv (1 : Int32)] [(.int (6 : Int32)), (.ref ar), (.ref a5_0)])) _
      refine st14 _ ?_
      show Steps p.tables e below (T14.setTop (mkF m 38 #[rv a5_0, iv (1 : Int32)] [(.ref b_14), (.ref a5_0)])) _
      refine st23 _ ?_
      show Steps p.tables e below (T23.setTop (mkF m 41 #[rv a5_0, iv (1 : Int32)] [])) _
      exact X23.returnOut hx Bd.returns (hb hby d5_41) hr
    · show Q_rm_er3 Z _ _ _ _ _ _ h0 n0 _ T23.heap _
      rw [e23]
      exact ⟨b_14, (6 : Int32), rfl, N26, (K24), (Or.inr bz19), g18, ne16, f25, f27, (Av.px f28 (vs := [(.int x0), (.int x1), (.int x2)]) (rs := _) rfl), (by decide), (by decide)⟩
  · skip
    obtain ⟨fs, hr, hrun, hended, hW, hsame⟩ := X3.leave (v := none) (fun _ => rfl)
    refine ⟨_, _, pre5 _ ?_, hrun, hended, _, _, rfl, ?_, ⟨_, rfl⟩, hW, hsame.mono (by decide) (by decide)⟩
    · show Steps p.tables e below (T3.setTop (mkF m 11 #[rv a5_0, iv (1 : Int32)] [(.int (ln - (3 : Int32))), (.int (1 : Int32))])) _
      refine XS.icmpYes X3.here hx rfl (pc0 := 11) (pc' := 41) rfl (hb hby d5_11) rfl (flt hc11_4).2.2.2 (by decide) (by decide) ?_
      show Steps p.tables e below (T3.setTop (mkF m 41 #[rv a5_0, iv (1 : Int32)] [])) _
      exact X3.returnOut hx Bd.returns (hb hby d5_41) hr
    · show Q_rm_er3 Z _ _ _ _ _ _ h0 n0 _ T3.heap _
      rw [e3]
      exact ⟨ar, ln, rfl, N0, (Keep.refl h0 [a5_0]), (Or.inl rfl), pf_G_ar, pf_NE_a5_0_ar, pf_F_a5_0_bytes, pf_F_a5_0_size, pf_X_ar, (own_room ln (3 : Int32) hle ⟨by decide, h8⟩ hc11_4), h8⟩
theorem d4_0 : decode prog_15_method_4_code 0 = .ok (.aload_n 0, 1) := by decide +kernel
theorem d4_1 : decode prog_15_method_4_code 1 = .ok (.iconst 1, 1) := by decide +kernel
theorem pd_2 : parseMethodDescriptor "(I)V" = some ⟨[.int], none⟩ := by decide +kernel
theorem d4_2 : decode prog_15_method_4_code 2 = .ok (.invokevirtual 32, 3) := by decide +kernel
theorem own_sel {args args1 : Array Value} {s : State} {y : MethodName} {k : Nat} (hp : s.PrivateAt y) (hi : (Jvm.Cond.instanceMethod y).before args s = true) (hn : (Jvm.Cond.instantiable y.cls k).before args1 s = true) (hy : y.cls ≠ "java/lang/invoke/MethodHandle" ∧ y.cls ≠ "java/lang/invoke/VarHandle") : (Jvm.Cond.selects y.cls y y).before args s = true := by
  obtain ⟨mk, methM, hnamed, hmethM, -, -⟩ := Cond.instanceMethod_spec hi
  obtain ⟨c, kc, h1, h2, h3, h4, -⟩ := Cond.instantiable_spec hn
  have hc := findClass_of_methodNamed hnamed
  cases h1.symm.trans hc
  have hf := State.methodFound?_of_named hnamed hy
  have hsel : selectMethod {} s.vm mk.cls mk = .method mk := selectMethod_private hmethM (hp mk methM hnamed hmethM)
  rw [Bool.or_eq_false_iff] at h4
  simp [Jvm.Cond.before, Jvm.Cond.holds, Jvm.Cond.value, hc, hf, hnamed, hsel, h2, h4.1]
theorem d4_5 : decode prog_15_method_4_code 5 = .ok (.aload_n 0, 1) := by decide +kernel
theorem d4_6 : decode prog_15_method_4_code 6 = .ok (.getfield 24, 3) := by decide +kernel
theorem d4_9 : decode prog_15_method_4_code 9 = .ok (.aload_n 0, 1) := by decide +kernel
theorem d4_10 : decode prog_15_method_4_code 10 = .ok (.dup, 1) := by decide +kernel
theorem d4_11 : decode prog_15_method_4_code 11 = .ok (.getfield 28, 3) := by decide +kernel
theorem d4_14 : decode prog_15_method_4_code 14 = .ok (.dup_x1, 1) := by decide +kernel
theorem d4_15 : decode prog_15_method_4_code 15 = .ok (.iconst 1, 1) := by decide +kernel
theorem d4_16 : decode prog_15_method_4_code 16 = .ok (.iadd, 1) := by decide +kernel
theorem d4_17 : decode prog_15_method_4_code 17 = .ok (.putfield 28, 3) := by decide +kernel
theorem d4_20 : decode prog_15_method_4_code 20 = .ok (.iload_n 1, 1) := by decide +kernel
theorem d4_21 : decode prog_15_method_4_code 21 = .ok (.i2b, 1) := by decide +kernel
theorem d4_22 : decode prog_15_method_4_code 22 = .ok (.bastore, 1) := by decide +kernel
theorem d4_23 : decode prog_15_method_4_code 23 = .ok (.return_, 1) := by decide +kernel
theorem ef_rm_wr0 (m : MethodId) (x0 : Addr) (x1 : Int32) : entryFrame m #[(.ref x0), (.int x1)] 2 = mkF m 0 #[rv x0, iv x1] [] := by first | (simp [entryFrame, mkF, argsToLocals, Value.category]; done) | rfl
def Q_rm_wr0 (Z : State) (a4_0 : Addr) (vv : Int32) (ar : Addr) (ln : Int32) (h0 : Heap) (n0 : Nat) (v : Option Value) (h : Heap) (L : List Loc) : Prop := ∃ (ar2 : Addr) (ln2 : Int32), v = none ∧ Fr n0 L ∧ Keep h0 h [a4_0, ar] ∧ (ar2 = ar ∨ h0.size ≤ ar2) ∧ (n0 ≤ ar2) ∧ (a4_0 ≠ ar2) ∧ (Fld Z h a4_0 "com/example/dido/dido/keys/KeyWriter" "bytes" "[B" (.ref ar2)) ∧ (Fld Z h a4_0 "com/example/dido/dido/keys/KeyWriter" "size" "I" (.int (1 : Int32))) ∧ (Px Z h ar2 .byte ln2 [(.int (nar .byte (vv.toInt8.toInt32)))]) ∧ ((1 : Int32).toInt ≤ ln2.toInt) ∧ (ln2.toInt < 9)
set_option maxRecDepth 65536 in
set_option maxHeartbeats 40000000 in
theorem rm_wr0 (l : Launch) (Z : State) (a0 : Array Value) (hw : ∀ d ∈ tables_1, d.before a0 Z = true) (ws : List Jvm.Cond) (a4_0 : Addr) (vv : Int32) (ar : Addr) (ln : Int32) (h0 : Heap) (n0 : Nat) (Z0 : n0 ≤ h0.size) (pf_E_a4_0 : Exa Z h0 a4_0 "com/example/dido/dido/keys/KeyWriter") (pf_G_a4_0 : n0 ≤ a4_0) (pf_G_ar : n0 ≤ ar) (pf_NE_a4_0_ar : a4_0 ≠ ar) (pf_F_a4_0_bytes : Fld Z h0 a4_0 "com/example/dido/dido/keys/KeyWriter" "bytes" "[B" (.ref ar)) (pf_F_a4_0_size : Fld Z h0 a4_0 "com/example/dido/dido/keys/KeyWriter" "size" "I" (.int (0 : Int32))) (pf_X_ar : Px Z h0 ar .byte ln []) (hle : (0 : Int32).toInt ≤ ln.toInt) (h8 : ln.toInt < 9) :
    MetFree l (⟨"com/example/dido/dido/keys/KeyWriter", "write", "(I)V"⟩ : MethodName) (head1 (Jvm.Cond.code (⟨"com/example/dido/dido/keys/KeyWriter", "write", "(I)V"⟩ : MethodName) prog_15_method_4_code 2 none :: ws) ({ frames := 3, cells := 1, slots := 1, locals := 46 } : Room)) (fun a U => a = #[(.ref a4_0), (.int vv)] ∧ Z.Warmed39 U.vm ∧ U.heap = h0) (fun _ _ _ _ _ => True) (fun _ U o U' => ∃ v L, o = .returned v ∧ Q_rm_wr0 Z a4_0 vv ar ln h0 n0 v U'.heap L ∧ FrameEnd U o U' L ({ frames := 3, cells := 1, slots := 1, locals := 46 } : Room).cells ({ frames := 3, cells := 1, slots := 1, locals := 46 } : Room).slots) := by
  refine MetFree.of_bodySF (plainFor_of_name pn_com_example_dido_dido_keys_KeyWriter) hisR ?_
  intro p e s m args below meth c s₁ Bd hml0 hP hK
  obtain ⟨rfl, hZ, hh⟩ := hP
  have hx := Bd.exec
  have hby := Bd.bytes
  have hml : c.maxLocals = 2 := hml0
  have hown : s.vm.findClass "com/example/dido/dido/keys/KeyWriter" = some m.cls := findClass_of_methodNamed Bd.named
  have hnm := (name_of_methodNamed Bd.named Bd.method).1
  have X0 : Stand p l e ({ frames := 3, cells := 1, slots := 1, locals := 46 } : Room) s m #[(.ref a4_0), (.int vv)] below meth c s₁ [] 0 0 := Stand.of_body Bd
  have e0 : s₁.heap = h0 := by rw [← hh, Bd.state]; rfl
  have N0 := Fr.nil n0
  have pre0 : ∀ t, Steps p.tables e below (s₁.setTop (mkF m 0 #[rv a4_0, iv vv] [])) t → Steps p.tables e below (s₁.setTop (entryFrame m #[(.ref a4_0), (.int vv)] 2)) t := fun t k => castTop (ef_rm_wr0 m a4_0 vv) k
  have wo2 := hw _ (List.mem_of_getElem? (i := 2) rfl)
  have wo3 := hw _ (List.mem_of_getElem? (i := 3) rfl)
  have wo16 := hw _ (List.mem_of_getElem? (i := 16) rfl)
  have wo17 := hw _ (List.mem_of_getElem? (i := 17) rfl)
  have wo23 := hw _ (List.mem_of_getElem? (i := 23) rfl)
  have wo24 := hw _ (List.mem_of_getElem? (i := 24) rfl)
  have wo25 := hw _ (List.mem_of_getElem? (i := 25) rfl)
  have wo26 := hw _ (List.mem_of_getElem? (i := 26) rfl)
  have wo27 := hw _ (List.mem_of_getElem? (i := 27) rfl)
  have wo28 := hw _ (List.mem_of_getElem? (i := 28) rfl)
  obtain ⟨cq1, q1, q1'⟩ := pf_E_a4_0.cell
  obtain ⟨_, _, ⟨T1, L1, k1, n1⟩, -, X1, ⟨Lc1, hQ1, l1, y1, z1⟩, st1⟩ := X0.privateBack hx (y := MN5) hown (mvT hZ wo23) (mvT hZ wo24) (own_sel (Cond.privateMethod_at (mvP hZ wo25 (args := #[]))) (mvT hZ wo24) (mvT hZ wo2 (args := #[])) (by decide)) (Cond.privateMethod_at (mvP hZ wo25 (args := #[]))) (mvT hZ wo26) (by decide) (backOf (W := 0) (rm_er0 l Z a0 hw [] a4_0 ar ln h0 n0 Z0 pf_E_a4_0 pf_G_a4_0 pf_G_ar pf_NE_a4_0_ar pf_F_a4_0_bytes pf_F_a4_0_size pf_X_ar (hle : (0 : Int32).toInt ≤ ln.toInt) (h8 : ln.toInt < 9)) hZ wo26 wo3 (by decide) (by decide)) (g := (mkF m 2 #[rv a4_0, iv vv] [(.int (1 : Int32)), (.ref a4_0)])) rfl (by rw [hml]; rfl) (Steps.refl _) (a := a4_0) (by rw [e0]; exact q1) q1' (argsL := [(.int (1 : Int32))]) (rest := []) (lenOf pd_2 rfl) rfl (by show 2 * 0 + _ ≤ _; exact Nat.le_of_eq rfl) (hb hby d4_2) (fun _ _ => ⟨rfl, e0, (by decide : 0 + 1 ≤ _), (by decide : 0 + 1 ≤ _)⟩)
  dsimp only [Pt.U, Pt.locs, Pt.cells, Pt.slots] at X1 l1 y1 z1 st1 hQ1
  rw [l1, y1, z1] at X1
  obtain ⟨ar2_1, ln2_1, rfl, N1q, K1q, hq1_0, hq1_1, hq1_2, hq1_3, hq1_4, hq1_5, hq1_6, hq1_7⟩ := hQ1
  have N2 := Fr.app N0 N1q
  have K3 : Keep h0 T1.heap [a4_0, ar] := (Keep.refl h0 [a4_0, ar]).trans K1q (allS (P := fun x => x ∈ [a4_0, ar] ∨ h0.size ≤ x) (Or.inl (List.mem_of_getElem? (i := 0) rfl)) all0)
  have dz4 : ar2_1 = ar ∨ h0.size ≤ ar2_1 := hq1_0.imp id (fun q => Nat.le_trans (Keep.refl h0 [a4_0, ar]).1 q)
  obtain ⟨T5, X5, e5, st5⟩ := getF X1 hx hZ hown (host := "") (Or.inl wo16) Via.refl rfl hq1_3 (g := (mkF m 6 #[rv a4_0, iv vv] [(.ref a4_0)])) rfl rfl (hb hby d4_6)
  obtain ⟨T6, X6, e6, st6⟩ := getF X5 hx hZ hown (host := "") (Or.inl wo27) Via.refl e5 hq1_4 (g := (mkF m 11 #[rv a4_0, iv vv] [(.ref a4_0), (.ref a4_0), (.ref ar2_1)])) rfl rfl (hb hby d4_11)
  have f7 := (pf_E_a4_0.keep K1q)
  obtain ⟨T8, h8, X8, e8, W8, st8⟩ := putF X6 hx hZ hown (host := "") (Or.inl wo27) Via.refl e6 hq1_4 f7 (Or.inl wo28) wo2 (ty := .int) (by decide) rfl rfl (g := (mkF m 17 #[rv a4_0, iv vv] [(.int (1 : Int32)), (.ref a4_0), (.int (0 : Int32)), (.ref ar2_1)])) rfl rfl (hb hby d4_17)
  have K9 : Keep h0 h8 [a4_0, ar] := (K3).wr W8 (Or.inl (List.mem_of_getElem? (i := 0) rfl))
  have f10 : Fld Z h8 a4_0 "com/example/dido/dido/keys/KeyWriter" "size" "I" (.int (1 : Int32)) := hq1_4.same W8
  have N11 := Fr.snoc X8 N2 pf_G_a4_0
  have f12 := (hq1_5.other W8 (Ne.symm hq1_2))
  obtain ⟨re13, kk13, cl13, Ar13, qq13, Sz13, Nn13, Hs13, Gf13⟩ := id f12
  have hin14 : ¬ ((0 : Int32) < 0 ∨ cl13.slots.size ≤ ((0 : Int32)).toNatClampNeg) := inb_of Sz13 ⟨by decide, by rw [Int32.lt_iff_toInt_lt]; exact hq1_6⟩
  obtain ⟨T15, h15, X15, e15, W15, st15⟩ := stB X8 hx hZ e8 Ar13 (j := (0 : Int32)) hin14 (g := (mkF m 22 #[rv a4_0, iv vv] [(.int (vv.toInt8.toInt32)), (.int (0 : Int32)), (.ref ar2_1)])) rfl rfl (hb hby d4_22)
  have K16 : Keep h0 h15 [a4_0, ar] := (K9).wr W15 (dz4.elim (fun q => Or.inl (by rw [q]; exact List.mem_of_getElem? (i := 1) rfl)) Or.inr)
  have f17 : Px Z h15 ar2_1 .byte ln2_1 [(.int (nar .byte (vv.toInt8.toInt32)))] := Px.push Ar13 qq13 Sz13 Nn13 Hs13 Gf13 (by first | rfl | exact fits_nar_byte _) W15 rfl
  have N18 := Fr.snoc X15 N11 hq1_1
  have f19 := ((hq1_3.other W8 (Or.inr (slot_ne (Or.inl wo17) (Or.inl wo28) (by decide) (t := (.array .byte)) (t' := .int) (by decide) (by decide)))).other W15 (Or.inl hq1_2))
  have f20 := (f10.other W15 (Or.inl hq1_2))
  obtain ⟨fs, hr, hrun, hended, hW, hsame⟩ := X15.leave (v := none) (fun _ => rfl)
  refine ⟨_, _, pre0 _ ?_, hrun, hended, _, _, rfl, ?_, ⟨_, rfl⟩, hW, hsame.mono (by decide) (by decide)⟩
  · show Steps p.tables e below (s₁.setTop (mkF m 0 #[rv a4_0, iv vv] [])) _
    refine XS.aloadN X0.here hx rfl (hb hby d4_0) rfl rfl ?_
    show Steps p.tables e below (s₁.setTop (mkF m 1 #[rv a4_0, iv vv] [(.ref a4_0)])) _
    refine XS.iconst X0.here hx rfl (hb hby d4_1) ?_
    show Steps p.tables e below (s₁.setTop (mkF m 2 #[rv a4_0, iv vv] [(.int (1 : Int32)), (.ref a4_0)])) _
    refine st1.trans ?_
    show Steps p.tables e below (T1.setTop (mkF m 5 #[rv a4_0, iv vv] [])) _
    refine XS.aloadN X1.here hx rfl (hb hby d4_5) rfl rfl ?_
    show Steps p.tables e below (T1.setTop (mkF m 6 #[rv a4_0, iv vv] [(.ref a4_0)])) _
    refine st5 _ ?_
    show Steps p.tables e below (T5.setTop (mkF m 9 #[rv a4_0, iv vv] [(.ref ar2_1)])) _
    refine XS.aloadN X5.here hx rfl (hb hby d4_9) rfl rfl ?_
    refine XS.dup X5.here hx rfl (hb hby d4_10) rfl rfl ?_
    show Steps p.tables e below (T5.setTop (mkF m 11 #[rv a4_0, iv vv] [(.ref a4_0), (.ref a4_0), (.ref ar2_1)])) _
    refine st6 _ ?_
    show Steps p.tables e below (T6.setTop (mkF m 14 #[rv a4_0, iv vv] [(.int (0 : Int32)), (.ref a4_0), (.ref ar2_1)])) _
    refine XS.dupX1 X6.here hx rfl (hb hby d4_14) rfl rfl rfl ?_
    show Steps p.tables e below (T6.setTop (mkF m 15 #[rv a4_0, iv vv] [(.int (0 : Int32)), (.ref a4_0), (.int (0 : Int32)), (.ref ar2_1)])) _
    refine XS.iconst X6.here hx rfl (hb hby d4_15) ?_
    refine XS.iadd X6.here hx rfl (hb hby d4_16) rfl ?_
    show Steps p.tables e below (T6.setTop (mkF m 17 #[rv a4_0, iv vv] [(.int (1 : Int32)), (.ref a4_0), (.int (0 : Int32)), (.ref ar2_1)])) _
    refine st8 _ ?_
    show Steps p.tables e below (T8.setTop (mkF m 20 #[rv a4_0, iv vv] [(.int (0 : Int32)), (.ref ar2_1)])) _
    refine XS.iloadN X8.here hx rfl (hb hby d4_20) rfl ?_
    show Steps p.tables e below (T8.setTop (mkF m 21 #[rv a4_0, iv vv] [(.int vv), (.int (0 : Int32)), (.ref ar2_1)])) _
    refine XS.i2b X8.here hx rfl (hb hby d4_21) rfl ?_
    show Steps p.tables e below (T8.setTop (mkF m 22 #[rv a4_0, iv vv] [(.int (vv.toInt8.toInt32)), (.int (0 : Int32)), (.ref ar2_1)])) _
    refine st15 _ ?_
    show Steps p.tables e below (T15.setTop (mkF m 23 #[rv a4_0, iv vv] [])) _
    exact X15.returnOut hx Bd.returns (hb hby d4_23) hr
  · show Q_rm_wr0 Z _ _ _ _ h0 n0 _ T15.heap _
    rw [e15]
    exact ⟨ar2_1, ln2_1, rfl, N18, (K16), dz4, hq1_1, hq1_2, f19, f20, f17, (by have q := hq1_6; simp only [Int32.reduceToInt] at *; omega), hq1_7⟩
theorem ef_rm_wr1 (m : MethodId) (x0 : Addr) (x1 : Int32) : entryFrame m #[(.ref x0), (.int x1)] 2 = mkF m 0 #[rv x0, iv x1] [] := by first | (simp [entryFrame, mkF, argsToLocals, Value.category]; done) | rfl
def Q_rm_wr1 (Z : State) (a4_0 : Addr) (vv : Int32) (ar : Addr) (ln : Int32) (x0 : Int32) (h0 : Heap) (n0 : Nat) (v : Option Value) (h : Heap) (L : List Loc) : Prop := ∃ (ar2 : Addr) (ln2 : Int32), v = none ∧ Fr n0 L ∧ Keep h0 h [a4_0, ar] ∧ (ar2 = ar ∨ h0.size ≤ ar2) ∧ (n0 ≤ ar2) ∧ (a4_0 ≠ ar2) ∧ (Fld Z h a4_0 "com/example/dido/dido/keys/KeyWriter" "bytes" "[B" (.ref ar2)) ∧ (Fld Z h a4_0 "com/example/dido/dido/keys/KeyWriter" "size" "I" (.int (2 : Int32))) ∧ (Px Z h ar2 .byte ln2 [(.int x0), (.int (nar .byte (vv.toInt8.toInt32)))]) ∧ ((2 : Int32).toInt ≤ ln2.toInt) ∧ (ln2.toInt < 9)
set_option maxRecDepth 65536 in
set_option maxHeartbeats 40000000 in
theorem rm_wr1 (l : Launch) (Z : State) (a0 : Array Value) (hw : ∀ d ∈ tables_1, d.before a0 Z = true) (ws : List Jvm.Cond) (a4_0 : Addr) (vv : Int32) (ar : Addr) (ln : Int32) (x0 : Int32) (h0 : Heap) (n0 : Nat) (Z0 : n0 ≤ h0.size) (pf_E_a4_0 : Exa Z h0 a4_0 "com/example/dido/dido/keys/KeyWriter") (pf_G_a4_0 : n0 ≤ a4_0) (pf_G_ar : n0 ≤ ar) (pf_NE_a4_0_ar : a4_0 ≠ ar) (pf_F_a4_0_bytes : Fld Z h0 a4_0 "com/example/dido/dido/keys/KeyWriter" "bytes" "[B" (.ref ar)) (pf_F_a4_0_size : Fld Z h0 a4_0 "com/example/dido/dido/keys/KeyWriter" "size" "I" (.int (1 : Int32))) (pf_X_ar : Px Z h0 ar .byte ln [(.int x0)]) (hle : (1 : Int32).toInt ≤ ln.toInt) (h8 : ln.toInt < 9) :
    MetFree l (⟨"com/example/dido/dido/keys/KeyWriter", "write", "(I)V"⟩ : MethodName) (head1 (Jvm.Cond.code (⟨"com/example/dido/dido/keys/KeyWriter", "write", "(I)V"⟩ : MethodName) prog_15_method_4_code 2 none :: ws) ({ frames := 3, cells := 1, slots := 2, locals := 46 } : Room)) (fun a U => a = #[(.ref a4_0), (.int vv)] ∧ Z.Warmed39 U.vm ∧ U.heap = h0) (fun _ _ _ _ _ => True) (fun _ U o U' => ∃ v L, o = .returned v ∧ Q_rm_wr1 Z a4_0 vv ar ln x0 h0 n0 v U'.heap L ∧ FrameEnd U o U' L ({ frames := 3, cells := 1, slots := 2, locals := 46 } : Room).cells ({ frames := 3, cells := 1, slots := 2, locals := 46 } : Room).slots) := by
  refine MetFree.of_bodySF (plainFor_of_name pn_com_example_dido_dido_keys_KeyWriter) hisR ?_
  intro p e s m args below meth c s₁ Bd hml0 hP hK
  obtain ⟨rfl, hZ, hh⟩ := hP
  have hx := Bd.exec
  have hby := Bd.bytes
  have hml : c.maxLocals = 2 := hml0
  have hown : s.vm.findClass "com/example/dido/dido/keys/KeyWriter" = some m.cls := findClass_of_methodNamed Bd.named
  have hnm := (name_of_methodNamed Bd.named Bd.method).1
  have X0 : Stand p l e ({ frames := 3, cells := 1, slots := 2, locals := 46 } : Room) s m #[(.ref a4_0), (.int vv)] below meth c s₁ [] 0 0 := Stand.of_body Bd
  have e0 : s₁.heap = h0 := by rw [← hh, Bd.state]; rfl
  have N0 := Fr.nil n0
  have pre0 : ∀ t, Steps p.tables e below (s₁.setTop (mkF m 0 #[rv a4_0, iv vv] [])) t → Steps p.tables e below (s₁.setTop (entryFrame m #[(.ref a4_0), (.int vv)] 2)) t := fun t k => castTop (ef_rm_wr1 m a4_0 vv) k
  have wo2 := hw _ (List.mem_of_getElem? (i := 2) rfl)
  have wo3 := hw _ (List.mem_of_getElem? (i := 3) rfl)
  have wo16 := hw _ (List.mem_of_getElem? (i := 16) rfl)
  have wo17 := hw _ (List.mem_of_getElem? (i := 17) rfl)
  have wo23 := hw _ (List.mem_of_getElem? (i := 23) rfl)
  have wo24 := hw _ (List.mem_of_getElem? (i := 24) rfl)
  have wo25 := hw _ (List.mem_of_getElem? (i := 25) rfl)
  have wo26 := hw _ (List.mem_of_getElem? (i := 26) rfl)
  have wo27 := hw _ (List.mem_of_getElem? (i := 27) rfl)
  have wo28 := hw _ (List.mem_of_getElem? (i := 28) rfl)
  obtain ⟨cq1, q1, q1'⟩ := pf_E_a4_0.cell
  obtain ⟨_, _, ⟨T1, L1, k1, n1⟩, -, X1, ⟨Lc1, hQ1, l1, y1, z1⟩, st1⟩ := X0.privateBack hx (y := MN5) hown (mvT hZ wo23) (mvT hZ wo24) (own_sel (Cond.privateMethod_at (mvP hZ wo25 (args := #[]))) (mvT hZ wo24) (mvT hZ wo2 (args := #[])) (by decide)) (Cond.privateMethod_at (mvP hZ wo25 (args := #[]))) (mvT hZ wo26) (by decide) (backOf (W := 0) (rm_er1 l Z a0 hw [] a4_0 ar ln x0 h0 n0 Z0 pf_E_a4_0 pf_G_a4_0 pf_G_ar pf_NE_a4_0_ar pf_F_a4_0_bytes pf_F_a4_0_size pf_X_ar (hle : (1 : Int32).toInt ≤ ln.toInt) (h8 : ln.toInt < 9)) hZ wo26 wo3 (by decide) (by decide)) (g := (mkF m 2 #[rv a4_0, iv vv] [(.int (1 : Int32)), (.ref a4_0)])) rfl (by rw [hml]; rfl) (Steps.refl _) (a := a4_0) (by rw [e0]; exact q1) q1' (argsL := [(.int (1 : Int32))]) (rest := []) (lenOf pd_2 rfl) rfl (by show 2 * 0 + _ ≤ _; exact Nat.le_of_eq rfl) (hb hby d4_2) (fun _ _ => ⟨rfl, e0, (by decide : 0 + 1 ≤ _), (by decide : 0 + 2 ≤ _)⟩)
  dsimp only [Pt.U, Pt.locs, Pt.cells, Pt.slots] at X1 l1 y1 z1 st1 hQ1
  rw [l1, y1, z1] at X1
  obtain ⟨ar2_1, ln2_1, rfl, N1q, K1q, hq1_0, hq1_1, hq1_2, hq1_3, hq1_4, hq1_5, hq1_6, hq1_7⟩ := hQ1
  have N2 := Fr.app N0 N1q
  have K3 : Keep h0 T1.heap [a4_0, ar] := (Keep.refl h0 [a4_0, ar]).trans K1q (allS (P := fun x => x ∈ [a4_0, ar] ∨ h0.size ≤ x) (Or.inl (List.mem_of_getElem? (i := 0) rfl)) all0)
  have dz4 : ar2_1 = ar ∨ h0.size ≤ ar2_1 := hq1_0.imp id (fun q => Nat.le_trans (Keep.refl h0 [a4_0, ar]).1 q)
  obtain ⟨T5, X5, e5, st5⟩ := getF X1 hx hZ hown (host := "") (Or.inl wo16) Via.refl rfl hq1_3 (g := (mkF m 6 #[rv a4_0, iv vv] [(.ref a4_0)])) rfl rfl (hb hby d4_6)
  obtain ⟨T6, X6, e6, st6⟩ := getF X5 hx hZ hown (host := "") (Or.inl wo27) Via.refl e5 hq1_4 (g := (mkF m 11 #[rv a4_0, iv vv] [(.ref a4_0), (.ref a4_0), (.ref ar2_1)])) rfl rfl (hb hby d4_11)
  have f7 := (pf_E_a4_0.keep K1q)
  obtain ⟨T8, h8, X8, e8, W8, st8⟩ := putF X6 hx hZ hown (host := "") (Or.inl wo27) Via.refl e6 hq1_4 f7 (Or.inl wo28) wo2 (ty := .int) (by decide) rfl rfl (g := (mkF m 17 #[rv a4_0, iv vv] [(.int (2 : Int32)), (.ref a4_0), (.int (1 : Int32)), (.ref ar2_1)])) rfl rfl (hb hby d4_17)
  have K9 : Keep h0 h8 [a4_0, ar] := (K3).wr W8 (Or.inl (List.mem_of_getElem? (i := 0) rfl))
  have f10 : Fld Z h8 a4_0 "com/example/dido/dido/keys/KeyWriter" "size" "I" (.int (2 : Int32)) := hq1_4.same W8
  have N11 := Fr.snoc X8 N2 pf_G_a4_0
  have f12 := (hq1_5.other W8 (Ne.symm hq1_2))
  obtain ⟨re13, kk13, cl13, Ar13, qq13, Sz13, Nn13, Hs13, Gf13⟩ := id f12
  have hin14 : ¬ ((1 : Int32) < 0 ∨ cl13.slots.size ≤ ((1 : Int32)).toNatClampNeg) := inb_of Sz13 ⟨by decide, by rw [Int32.lt_iff_toInt_lt]; exact hq1_6⟩
  obtain ⟨T15, h15, X15, e15, W15, st15⟩ := stB X8 hx hZ e8 Ar13 (j := (1 : Int32)) hin14 (g := (mkF m 22 #[rv a4_0, iv vv] [(.int (vv.toInt8.toInt32)), (.int (1 : Int32)), (.ref ar2_1)])) rfl rfl (hb hby d4_22)
  have K16 : Keep h0 h15 [a4_0, ar] := (K9).wr W15 (dz4.elim (fun q => Or.inl (by rw [q]; exact List.mem_of_getElem? (i := 1) rfl)) Or.inr)
  have f17 : Px Z h15 ar2_1 .byte ln2_1 [(.int x0), (.int (nar .byte (vv.toInt8.toInt32)))] := Px.push Ar13 qq13 Sz13 Nn13 Hs13 Gf13 (by first | rfl | exact fits_nar_byte _) W15 rfl
  have N18 := Fr.snoc X15 N11 hq1_1
  have f19 := ((hq1_3.other W8 (Or.inr (slot_ne (Or.inl wo17) (Or.inl wo28) (by decide) (t := (.array .byte)) (t' := .int) (by decide) (by decide)))).other W15 (Or.inl hq1_2))
  have f20 := (f10.other W15 (Or.inl hq1_2))
  obtain ⟨fs, hr, hrun, hended, hW, hsame⟩ := X15.leave (v := none) (fun _ => rfl)
  refine ⟨_, _, pre0 _ ?_, hrun, hended, _, _, rfl, ?_, ⟨_, rfl⟩, hW, hsame.mono (by decide) (by decide)⟩
  · show Steps p.tables e below (s₁.setTop (mkF m 0 #[rv a4_0, iv vv] [])) _
    refine XS.aloadN X0.here hx rfl (hb hby d4_0) rfl rfl ?_
    show Steps p.tables e below (s₁.setTop (mkF m 1 #[rv a4_0, iv vv] [(.ref a4_0)])) _
    refine XS.iconst X0.here hx rfl (hb hby d4_1) ?_
    show Steps p.tables e below (s₁.setTop (mkF m 2 #[rv a4_0, iv vv] [(.int (1 : Int32)), (.ref a4_0)])) _
    refine st1.trans ?_
    show Steps p.tables e below (T1.setTop (mkF m 5 #[rv a4_0, iv vv] [])) _
    refine XS.aloadN X1.here hx rfl (hb hby d4_5) rfl rfl ?_
    show Steps p.tables e below (T1.setTop (mkF m 6 #[rv a4_0, iv vv] [(.ref a4_0)])) _
    refine st5 _ ?_
    show Steps p.tables e below (T5.setTop (mkF m 9 #[rv a4_0, iv vv] [(.ref ar2_1)])) _
    refine XS.aloadN X5.here hx rfl (hb hby d4_9) rfl rfl ?_
    refine XS.dup X5.here hx rfl (hb hby d4_10) rfl rfl ?_
    show Steps p.tables e below (T5.setTop (mkF m 11 #[rv a4_0, iv vv] [(.ref a4_0), (.ref a4_0), (.ref ar2_1)])) _
    refine st6 _ ?_
    show Steps p.tables e below (T6.setTop (mkF m 14 #[rv a4_0, iv vv] [(.int (1 : Int32)), (.ref a4_0), (.ref ar2_1)])) _
    refine XS.dupX1 X6.here hx rfl (hb hby d4_14) rfl rfl rfl ?_
    show Steps p.tables e below (T6.setTop (mkF m 15 #[rv a4_0, iv vv] [(.int (1 : Int32)), (.ref a4_0), (.int (1 : Int32)), (.ref ar2_1)])) _
    refine XS.iconst X6.here hx rfl (hb hby d4_15) ?_
    refine XS.iadd X6.here hx rfl (hb hby d4_16) rfl ?_
    show Steps p.tables e below (T6.setTop (mkF m 17 #[rv a4_0, iv vv] [(.int (2 : Int32)), (.ref a4_0), (.int (1 : Int32)), (.ref ar2_1)])) _
    refine st8 _ ?_
    show Steps p.tables e below (T8.setTop (mkF m 20 #[rv a4_0, iv vv] [(.int (1 : Int32)), (.ref ar2_1)])) _
    refine XS.iloadN X8.here hx rfl (hb hby d4_20) rfl ?_
    show Steps p.tables e below (T8.setTop (mkF m 21 #[rv a4_0, iv vv] [(.int vv), (.int (1 : Int32)), (.ref ar2_1)])) _
    refine XS.i2b X8.here hx rfl (hb hby d4_21) rfl ?_
    show Steps p.tables e below (T8.setTop (mkF m 22 #[rv a4_0, iv vv] [(.int (vv.toInt8.toInt32)), (.int (1 : Int32)), (.ref ar2_1)])) _
    refine st15 _ ?_
    show Steps p.tables e below (T15.setTop (mkF m 23 #[rv a4_0, iv vv] [])) _
    exact X15.returnOut hx Bd.returns (hb hby d4_23) hr
  · show Q_rm_wr1 Z _ _ _ _ _ h0 n0 _ T15.heap _
    rw [e15]
    exact ⟨ar2_1, ln2_1, rfl, N18, (K16), dz4, hq1_1, hq1_2, f19, f20, f17, (by have q := hq1_6; simp only [Int32.reduceToInt] at *; omega), hq1_7⟩
theorem ef_rm_wr2 (m : MethodId) (x0 : Addr) (x1 : Int32) : entryFrame m #[(.ref x0), (.int x1)] 2 = mkF m 0 #[rv x0, iv x1] [] := by first | (simp [entryFrame, mkF, argsToLocals, Value.category]; done) | rfl
def Q_rm_wr2 (Z : State) (a4_0 : Addr) (vv : Int32) (ar : Addr) (ln : Int32) (x0 : Int32) (x1 : Int32) (h0 : Heap) (n0 : Nat) (v : Option Value) (h : Heap) (L : List Loc) : Prop := ∃ (ar2 : Addr) (ln2 : Int32), v = none ∧ Fr n0 L ∧ Keep h0 h [a4_0, ar] ∧ (ar2 = ar ∨ h0.size ≤ ar2) ∧ (n0 ≤ ar2) ∧ (a4_0 ≠ ar2) ∧ (Fld Z h a4_0 "com/example/dido/dido/keys/KeyWriter" "bytes" "[B" (.ref ar2)) ∧ (Fld Z h a4_0 "com/example/dido/dido/keys/KeyWriter" "size" "I" (.int (3 : Int32))) ∧ (Px Z h ar2 .byte ln2 [(.int x0), (.int x1), (.int (nar .byte (vv.toInt8.toInt32)))]) ∧ ((3 : Int32).toInt ≤ ln2.toInt) ∧ (ln2.toInt < 9)
set_option maxRecDepth 65536 in
set_option maxHeartbeats 40000000 in
theorem rm_wr2 (l : Launch) (Z : State) (a0 : Array Value) (hw : ∀ d ∈ tables_1, d.before a0 Z = true) (ws : List Jvm.Cond) (a4_0 : Addr) (vv : Int32) (ar : Addr) (ln : Int32) (x0 : Int32) (x1 : Int32) (h0 : Heap) (n0 : Nat) (Z0 : n0 ≤ h0.size) (pf_E_a4_0 : Exa Z h0 a4_0 "com/example/dido/dido/keys/KeyWriter") (pf_G_a4_0 : n0 ≤ a4_0) (pf_G_ar : n0 ≤ ar) (pf_NE_a4_0_ar : a4_0 ≠ ar) (pf_F_a4_0_bytes : Fld Z h0 a4_0 "com/example/dido/dido/keys/KeyWriter" "bytes" "[B" (.ref ar)) (pf_F_a4_0_size : Fld Z h0 a4_0 "com/example/dido/dido/keys/KeyWriter" "size" "I" (.int (2 : Int32))) (pf_X_ar : Px Z h0 ar .byte ln [(.int x0), (.int x1)]) (hle : (2 : Int32).toInt ≤ ln.toInt) (h8 : ln.toInt < 9) :
    MetFree l (⟨"com/example/dido/dido/keys/KeyWriter", "write", "(I)V"⟩ : MethodName) (head1 (Jvm.Cond.code (⟨"com/example/dido/dido/keys/KeyWriter", "write", "(I)V"⟩ : MethodName) prog_15_method_4_code 2 none :: ws) ({ frames := 3, cells := 1, slots := 4, locals := 46 } : Room)) (fun a U => a = #[(.ref a4_0), (.int vv)] ∧ Z.Warmed39 U.vm ∧ U.heap = h0) (fun _ _ _ _ _ => True) (fun _ U o U' => ∃ v L, o = .returned v ∧ Q_rm_wr2 Z a4_0 vv ar ln x0 x1 h0 n0 v U'.heap L ∧ FrameEnd U o U' L ({ frames := 3, cells := 1, slots := 4, locals := 46 } : Room).cells ({ frames := 3, cells := 1, slots := 4, locals := 46 } : Room).slots) := by
  refine MetFree.of_bodySF (plainFor_of_name pn_com_example_dido_dido_keys_KeyWriter) hisR ?_
  intro p e s m args below meth c s₁ Bd hml0 hP hK
  obtain ⟨rfl, hZ, hh⟩ := hP
  have hx := Bd.exec
  have hby := Bd.bytes
  have hml : c.maxLocals = 2 := hml0
  have hown : s.vm.findClass "com/example/dido/dido/keys/KeyWriter" = some m.cls := findClass_of_methodNamed Bd.named
  have hnm := (name_of_methodNamed Bd.named Bd.method).1
  have X0 : Stand p l e ({ frames := 3, cells := 1, slots := 4, locals := 46 } : Room) s m #[(.ref a4_0), (.int vv)] below meth c s₁ [] 0 0 := Stand.of_body Bd
  have e0 : s₁.heap = h0 := by rw [← hh, Bd.state]; rfl
  have N0 := Fr.nil n0
  have pre0 : ∀ t, Steps p.tables e below (s₁.setTop (mkF m 0 #[rv a4_0, iv vv] [])) t → Steps p.tables e below (s₁.setTop (entryFrame m #[(.ref a4_0), (.int vv)] 2)) t := fun t k => castTop (ef_rm_wr2 m a4_0 vv) k
  have wo2 := hw _ (List.mem_of_getElem? (i := 2) rfl)
  have wo3 := hw _ (List.mem_of_getElem? (i := 3) rfl)
  have wo16 := hw _ (List.mem_of_getElem? (i := 16) rfl)
  have wo17 := hw _ (List.mem_of_getElem? (i := 17) rfl)
  have wo23 := hw _ (List.mem_of_getElem? (i := 23) rfl)
  have wo24 := hw _ (List.mem_of_getElem? (i := 24) rfl)
  have wo25 := hw _ (List.mem_of_getElem? (i := 25) rfl)
  have wo26 := hw _ (List.mem_of_getElem? (i := 26) rfl)
  have wo27 := hw _ (List.mem_of_getElem? (i := 27) rfl)
  have wo28 := hw _ (List.mem_of_getElem? (i := 28) rfl)
  obtain ⟨cq1, q1, q1'⟩ := pf_E_a4_0.cell
  obtain ⟨_, _, ⟨T1, L1, k1, n1⟩, -, X1, ⟨Lc1, hQ1, l1, y1, z1⟩, st1⟩ := X0.privateBack hx (y := MN5) hown (mvT hZ wo23) (mvT hZ wo24) (own_sel (Cond.privateMethod_at (mvP hZ wo25 (args := #[]))) (mvT hZ wo24) (mvT hZ wo2 (args := #[])) (by decide)) (Cond.privateMethod_at (mvP hZ wo25 (args := #[]))) (mvT hZ wo26) (by decide) (backOf (W := 0) (rm_er2 l Z a0 hw [] a4_0 ar ln x0 x1 h0 n0 Z0 pf_E_a4_0 pf_G_a4_0 pf_G_ar pf_NE_a4_0_ar pf_F_a4_0_bytes pf_F_a4_0_size pf_X_ar (hle : (2 : Int32).toInt ≤ ln.toInt) (h8 : ln.toInt < 9)) hZ wo26 wo3 (by decide) (by decide)) (g := (mkF m 2 #[rv a4_0, iv vv] [(.int (1 : Int32)), (.ref a4_0)])) rfl (by rw [hml]; rfl) (Steps.refl _) (a := a4_0) (by rw [e0]; exact q1) q1' (argsL := [(.int (1 : Int32))]) (rest := []) (lenOf pd_2 rfl) rfl (by show 2 * 0 + _ ≤ _; exact Nat.le_of_eq rfl) (hb hby d4_2) (fun _ _ => ⟨rfl, e0, (by decide : 0 + 1 ≤ _), (by decide : 0 + 4 ≤ _)⟩)
  dsimp only [Pt.U, Pt.locs, Pt.cells, Pt.slots] at X1 l1 y1 z1 st1 hQ1
  rw [l1, y1, z1] at X1
  obtain ⟨ar2_1, ln2_1, rfl, N1q, K1q, hq1_0, hq1_1, hq1_2, hq1_3, hq1_4, hq1_5, hq1_6, hq1_7⟩ := hQ1
  have N2 := Fr.app N0 N1q
  have K3 : Keep h0 T1.heap [a4_0, ar] := (Keep.refl h0 [a4_0, ar]).trans K1q (allS (P := fun x => x ∈ [a4_0, ar] ∨ h0.size ≤ x) (Or.inl (List.mem_of_getElem? (i := 0) rfl)) all0)
  have dz4 : ar2_1 = ar ∨ h0.size ≤ ar2_1 := hq1_0.imp id (fun q => Nat.le_trans (Keep.refl h0 [a4_0, ar]).1 q)
  obtain ⟨T5, X5, e5, st5⟩ := getF X1 hx hZ hown (host := "") (Or.inl wo16) Via.refl rfl hq1_3 (g := (mkF m 6 #[rv a4_0, iv vv] [(.ref a4_0)])) rfl rfl (hb hby d4_6)
  obtain ⟨T6, X6, e6, st6⟩ := getF X5 hx hZ hown (host := "") (Or.inl wo27) Via.refl e5 hq1_4 (g := (mkF m 11 #[rv a4_0, iv vv] [(.ref a4_0), (.ref a4_0), (.ref ar2_1)])) rfl rfl (hb hby d4_11)
  have f7 := (pf_E_a4_0.keep K1q)
  obtain ⟨T8, h8, X8, e8, W8, st8⟩ := putF X6 hx hZ hown (host := "") (Or.inl wo27) Via.refl e6 hq1_4 f7 (Or.inl wo28) wo2 (ty := .int) (by decide) rfl rfl (g := (mkF m 17 #[rv a4_0, iv vv] [(.int (3 : Int32)), (.ref a4_0), (.int (2 : Int32)), (.ref ar2_1)])) rfl rfl (hb hby d4_17)
  have K9 : Keep h0 h8 [a4_0, ar] := (K3).wr W8 (Or.inl (List.mem_of_getElem? (i := 0) rfl))
  have f10 : Fld Z h8 a4_0 "com/example/dido/dido/keys/KeyWriter" "size" "I" (.int (3 : Int32)) := hq1_4.same W8
  have N11 := Fr.snoc X8 N2 pf_G_a4_0
  have f12 := (hq1_5.other W8 (Ne.symm hq1_2))
  obtain ⟨re13, kk13, cl13, Ar13, qq13, Sz13, Nn13, Hs13, Gf13⟩ := id f12
  have hin14 : ¬ ((2 : Int32) < 0 ∨ cl13.slots.size ≤ ((2 : Int32)).toNatClampNeg) := inb_of Sz13 ⟨by decide, by rw [Int32.lt_iff_toInt_lt]; exact hq1_6⟩
  obtain ⟨T15, h15, X15, e15, W15, st15⟩ := stB X8 hx hZ e8 Ar13 (j := (2 : Int32)) hin14 (g := (mkF m 22 #[rv a4_0, iv vv] [(.int (vv.toInt8.toInt32)), (.int (2 : Int32)), (.ref ar2_1)])) rfl rfl (hb hby d4_22)
  have K16 : Keep h0 h15 [a4_0, ar] := (K9).wr W15 (dz4.elim (fun q => Or.inl (by rw [q]; exact List.mem_of_getElem? (i := 1) rfl)) Or.inr)
  have f17 : Px Z h15 ar2_1 .byte ln2_1 [(.int x0), (.int x1), (.int (nar .byte (vv.toInt8.toInt32)))] := Px.push Ar13 qq13 Sz13 Nn13 Hs13 Gf13 (by first | rfl | exact fits_nar_byte _) W15 rfl
  have N18 := Fr.snoc X15 N11 hq1_1
  have f19 := ((hq1_3.other W8 (Or.inr (slot_ne (Or.inl wo17) (Or.inl wo28) (by decide) (t := (.array .byte)) (t' := .int) (by decide) (by decide)))).other W15 (Or.inl hq1_2))
  have f20 := (f10.other W15 (Or.inl hq1_2))
  obtain ⟨fs, hr, hrun, hended, hW, hsame⟩ := X15.leave (v := none) (fun _ => rfl)
  refine ⟨_, _, pre0 _ ?_, hrun, hended, _, _, rfl, ?_, ⟨_, rfl⟩, hW, hsame.mono (by decide) (by decide)⟩
  · show Steps p.tables e below (s₁.setTop (mkF m 0 #[rv a4_0, iv vv] [])) _
    refine XS.aloadN X0.here hx rfl (hb hby d4_0) rfl rfl ?_
    show Steps p.tables e below (s₁.setTop (mkF m 1 #[rv a4_0, iv vv] [(.ref a4_0)])) _
    refine XS.iconst X0.here hx rfl (hb hby d4_1) ?_
    show Steps p.tables e below (s₁.setTop (mkF m 2 #[rv a4_0, iv vv] [(.int (1 : Int32)), (.ref a4_0)])) _
    refine st1.trans ?_
    show Steps p.tables e below (T1.setTop (mkF m 5 #[rv a4_0, iv vv] [])) _
    refine XS.aloadN X1.here hx rfl (hb hby d4_5) rfl rfl ?_
    show Steps p.tables e below (T1.setTop (mkF m 6 #[rv a4_0, iv vv] [(.ref a4_0)])) _
    refine st5 _ ?_
    show Steps p.tables e below (T5.setTop (mkF m 9 #[rv a4_0, iv vv] [(.ref ar2_1)])) _
    refine XS.aloadN X5.here hx rfl (hb hby d4_9) rfl rfl ?_
    refine XS.dup X5.here hx rfl (hb hby d4_10) rfl rfl ?_
    show Steps p.tables e below (T5.setTop (mkF m 11 #[rv a4_0, iv vv] [(.ref a4_0), (.ref a4_0), (.ref ar2_1)])) _
    refine st6 _ ?_
    show Steps p.tables e below (T6.setTop (mkF m 14 #[rv a4_0, iv vv] [(.int (2 : Int32)), (.ref a4_0), (.ref ar2_1)])) _
    refine XS.dupX1 X6.here hx rfl (hb hby d4_14) rfl rfl rfl ?_
    show Steps p.tables e below (T6.setTop (mkF m 15 #[rv a4_0, iv vv] [(.int (2 : Int32)), (.ref a4_0), (.int (2 : Int32)), (.ref ar2_1)])) _
    refine XS.iconst X6.here hx rfl (hb hby d4_15) ?_
    refine XS.iadd X6.here hx rfl (hb hby d4_16) rfl ?_
    show Steps p.tables e below (T6.setTop (mkF m 17 #[rv a4_0, iv vv] [(.int (3 : Int32)), (.ref a4_0), (.int (2 : Int32)), (.ref ar2_1)])) _
    refine st8 _ ?_
    show Steps p.tables e below (T8.setTop (mkF m 20 #[rv a4_0, iv vv] [(.int (2 : Int32)), (.ref ar2_1)])) _
    refine XS.iloadN X8.here hx rfl (hb hby d4_20) rfl ?_
    show Steps p.tables e below (T8.setTop (mkF m 21 #[rv a4_0, iv vv] [(.int vv), (.int (2 : Int32)), (.ref ar2_1)])) _
    refine XS.i2b X8.here hx rfl (hb hby d4_21) rfl ?_
    show Steps p.tables e below (T8.setTop (mkF m 22 #[rv a4_0, iv vv] [(.int (vv.toInt8.toInt32)), (.int (2 : Int32)), (.ref ar2_1)])) _
    refine st15 _ ?_
    show Steps p.tables e below (T15.setTop (mkF m 23 #[rv a4_0, iv vv] [])) _
    exact X15.returnOut hx Bd.returns (hb hby d4_23) hr
  · show Q_rm_wr2 Z _ _ _ _ _ _ h0 n0 _ T15.heap _
    rw [e15]
    exact ⟨ar2_1, ln2_1, rfl, N18, (K16), dz4, hq1_1, hq1_2, f19, f20, f17, (by have q := hq1_6; simp only [Int32.reduceToInt] at *; omega), hq1_7⟩
theorem ef_rm_wr3 (m : MethodId) (x0 : Addr) (x1 : Int32) : entryFrame m #[(.ref x0), (.int x1)] 2 = mkF m 0 #[rv x0, iv x1] [] := by first | (simp [entryFrame, mkF, argsToLocals, Value.category]; done) | rfl
def Q_rm_wr3 (Z : State) (a4_0 : Addr) (vv : Int32) (ar : Addr) (ln : Int32) (x0 : Int32) (x1 : Int32) (x2 : Int32) (h0 : Heap) (n0 : Nat) (v : Option Value) (h : Heap) (L : List Loc) : Prop := ∃ (ar2 : Addr) (ln2 : Int32), v = none ∧ Fr n0 L ∧ Keep h0 h [a4_0, ar] ∧ (ar2 = ar ∨ h0.size ≤ ar2) ∧ (n0 ≤ ar2) ∧ (a4_0 ≠ ar2) ∧ (Fld Z h a4_0 "com/example/dido/dido/keys/KeyWriter" "bytes" "[B" (.ref ar2)) ∧ (Fld Z h a4_0 "com/example/dido/dido/keys/KeyWriter" "size" "I" (.int (4 : Int32))) ∧ (Px Z h ar2 .byte ln2 [(.int x0), (.int x1), (.int x2), (.int (nar .byte (vv.toInt8.toInt32)))]) ∧ ((4 : Int32).toInt ≤ ln2.toInt) ∧ (ln2.toInt < 9)
set_option maxRecDepth 65536 in
set_option maxHeartbeats 40000000 in
theorem rm_wr3 (l : Launch) (Z : State) (a0 : Array Value) (hw : ∀ d ∈ tables_1, d.before a0 Z = true) (ws : List Jvm.Cond) (a4_0 : Addr) (vv : Int32) (ar : Addr) (ln : Int32) (x0 : Int32) (x1 : Int32) (x2 : Int32) (h0 : Heap) (n0 : Nat) (Z0 : n0 ≤ h0.size) (pf_E_a4_0 : Exa Z h0 a4_0 "com/example/dido/dido/keys/KeyWriter") (pf_G_a4_0 : n0 ≤ a4_0) (pf_G_ar : n0 ≤ ar) (pf_NE_a4_0_ar : a4_0 ≠ ar) (pf_F_a4_0_bytes : Fld Z h0 a4_0 "com/example/dido/dido/keys/KeyWriter" "bytes" "[B" (.ref ar)) (pf_F_a4_0_size : Fld Z h0 a4_0 "com/example/dido/dido/keys/KeyWriter" "size" "I" (.int (3 : Int32))) (pf_X_ar : Px Z h0 ar .byte ln [(.int x0), (.int x1), (.int x2)]) (hle : (3 : Int32).toInt ≤ ln.toInt) (h8 : ln.toInt < 9) :
    MetFree l (⟨"com/example/dido/dido/keys/KeyWriter", "write", "(I)V"⟩ : MethodName) (head1 (Jvm.Cond.code (⟨"com/example/dido/dido/keys/KeyWriter", "write", "(I)V"⟩ : MethodName) prog_15_method_4_code 2 none :: ws) ({ frames := 3, cells := 1, slots := 6, locals := 46 } : Room)) (fun a U => a = #[(.ref a4_0), (.int vv)] ∧ Z.Warmed39 U.vm ∧ U.heap = h0) (fun _ _ _ _ _ => True) (fun _ U o U' => ∃ v L, o = .returned v ∧ Q_rm_wr3 Z a4_0 vv ar ln x0 x1 x2 h0 n0 v U'.heap L ∧ FrameEnd U o U' L ({ frames := 3, cells := 1, slots := 6, locals := 46 } : Room).cells ({ frames := 3, cells := 1, slots := 6, locals := 46 } : Room).slots) := by
  refine MetFree.of_bodySF (plainFor_of_name pn_com_example_dido_dido_keys_KeyWriter) hisR ?_
  intro p e s m args below meth c s₁ Bd hml0 hP hK
  obtain ⟨rfl, hZ, hh⟩ := hP
  have hx := Bd.exec
  have hby := Bd.bytes
  have hml : c.maxLocals = 2 := hml0
  have hown : s.vm.findClass "com/example/dido/dido/keys/KeyWriter" = some m.cls := findClass_of_methodNamed Bd.named
  have hnm := (name_of_methodNamed Bd.named Bd.method).1
  have X0 : Stand p l e ({ frames := 3, cells := 1, slots := 6, locals := 46 } : Room) s m #[(.ref a4_0), (.int vv)] below meth c s₁ [] 0 0 := Stand.of_body Bd
  have e0 : s₁.heap = h0 := by rw [← hh, Bd.state]; rfl
  have N0 := Fr.nil n0
  have pre0 : ∀ t, Steps p.tables e below (s₁.setTop (mkF m 0 #[rv a4_0, iv vv] [])) t → Steps p.tables e below (s₁.setTop (entryFrame m #[(.ref a4_0), (.int vv)] 2)) t := fun t k => castTop (ef_rm_wr3 m a4_0 vv) k
  have wo2 := hw _ (List.mem_of_getElem? (i := 2) rfl)
  have wo3 := hw _ (List.mem_of_getElem? (i := 3) rfl)
  have wo16 := hw _ (List.mem_of_getElem? (i := 16) rfl)
  have wo17 := hw _ (List.mem_of_getElem? (i := 17) rfl)
  have wo23 := hw _ (List.mem_of_getElem? (i := 23) rfl)
  have wo24 := hw _ (List.mem_of_getElem? (i := 24) rfl)
  have wo25 := hw _ (List.mem_of_getElem? (i := 25) rfl)
  have wo26 := hw _ (List.mem_of_getElem? (i := 26) rfl)
  have wo27 := hw _ (List.mem_of_getElem? (i := 27) rfl)
  have wo28 := hw _ (List.mem_of_getElem? (i := 28) rfl)
  obtain ⟨cq1, q1, q1'⟩ := pf_E_a4_0.cell
  obtain ⟨_, _, ⟨T1, L1, k1, n1⟩, -, X1, ⟨Lc1, hQ1, l1, y1, z1⟩, st1⟩ := X0.privateBack hx (y := MN5) hown (mvT hZ wo23) (mvT hZ wo24) (own_sel (Cond.privateMethod_at (mvP hZ wo25 (args := #[]))) (mvT hZ wo24) (mvT hZ wo2 (args := #[])) (by decide)) (Cond.privateMethod_at (mvP hZ wo25 (args := #[]))) (mvT hZ wo26) (by decide) (backOf (W := 0) (rm_er3 l Z a0 hw [] a4_0 ar ln x0 x1 x2 h0 n0 Z0 pf_E_a4_0 pf_G_a4_0 pf_G_ar pf_NE_a4_0_ar pf_F_a4_0_bytes pf_F_a4_0_size pf_X_ar (hle : (3 : Int32).toInt ≤ ln.toInt) (h8 : ln.toInt < 9)) hZ wo26 wo3 (by decide) (by decide)) (g := (mkF m 2 #[rv a4_0, iv vv] [(.int (1 : Int32)), (.ref a4_0)])) rfl (by rw [hml]; rfl) (Steps.refl _) (a := a4_0) (by rw [e0]; exact q1) q1' (argsL := [(.int (1 : Int32))]) (rest := []) (lenOf pd_2 rfl) rfl (by show 2 * 0 + _ ≤ _; exact Nat.le_of_eq rfl) (hb hby d4_2) (fun _ _ => ⟨rfl, e0, (by decide : 0 + 1 ≤ _), (by decide : 0 + 6 ≤ _)⟩)
  dsimp only [Pt.U, Pt.locs, Pt.cells, Pt.slots] at X1 l1 y1 z1 st1 hQ1
  rw [l1, y1, z1] at X1
  obtain ⟨ar2_1, ln2_1, rfl, N1q, K1q, hq1_0, hq1_1, hq1_2, hq1_3, hq1_4, hq1_5, hq1_6, hq1_7⟩ := hQ1
  have N2 := Fr.app N0 N1q
  have K3 : Keep h0 T1.heap [a4_0, ar] := (Keep.refl h0 [a4_0, ar]).trans K1q (allS (P := fun x => x ∈ [a4_0, ar] ∨ h0.size ≤ x) (Or.inl (List.mem_of_getElem? (i := 0) rfl)) all0)
  have dz4 : ar2_1 = ar ∨ h0.size ≤ ar2_1 := hq1_0.imp id (fun q => Nat.le_trans (Keep.refl h0 [a4_0, ar]).1 q)
  obtain ⟨T5, X5, e5, st5⟩ := getF X1 hx hZ hown (host := "") (Or.inl wo16) Via.refl rfl hq1_3 (g := (mkF m 6 #[rv a4_0, iv vv] [(.ref a4_0)])) rfl rfl (hb hby d4_6)
  obtain ⟨T6, X6, e6, st6⟩ := getF X5 hx hZ hown (host := "") (Or.inl wo27) Via.refl e5 hq1_4 (g := (mkF m 11 #[rv a4_0, iv vv] [(.ref a4_0), (.ref a4_0), (.ref ar2_1)])) rfl rfl (hb hby d4_11)
  have f7 := (pf_E_a4_0.keep K1q)
  obtain ⟨T8, h8, X8, e8, W8, st8⟩ := putF X6 hx hZ hown (host := "") (Or.inl wo27) Via.refl e6 hq1_4 f7 (Or.inl wo28) wo2 (ty := .int) (by decide) rfl rfl (g := (mkF m 17 #[rv a4_0, iv vv] [(.int (4 : Int32)), (.ref a4_0), (.int (3 : Int32)), (.ref ar2_1)])) rfl rfl (hb hby d4_17)
  have K9 : Keep h0 h8 [a4_0, ar] := (K3).wr W8 (Or.inl (List.mem_of_getElem? (i := 0) rfl))
  have f10 : Fld Z h8 a4_0 "com/example/dido/dido/keys/KeyWriter" "size" "I" (.int (4 : Int32)) := hq1_4.same W8
  have N11 := Fr.snoc X8 N2 pf_G_a4_0
  have f12 := (hq1_5.other W8 (Ne.symm hq1_2))
  obtain ⟨re13, kk13, cl13, Ar13, qq13, Sz13, Nn13, Hs13, Gf13⟩ := id f12
  have hin14 : ¬ ((3 : Int32) < 0 ∨ cl13.slots.size ≤ ((3 : Int32)).toNatClampNeg) := inb_of Sz13 ⟨by decide, by rw [Int32.lt_iff_toInt_lt]; exact hq1_6⟩
  obtain ⟨T15, h15, X15, e15, W15, st15⟩ := stB X8 hx hZ e8 Ar13 (j := (3 : Int32)) hin14 (g := (mkF m 22 #[rv a4_0, iv vv] [(.int (vv.toInt8.toInt32)), (.int (3 : Int32)), (.ref ar2_1)])) rfl rfl (hb hby d4_22)
  have K16 : Keep h0 h15 [a4_0, ar] := (K9).wr W15 (dz4.elim (fun q => Or.inl (by rw [q]; exact List.mem_of_getElem? (i := 1) rfl)) Or.inr)
  have f17 : Px Z h15 ar2_1 .byte ln2_1 [(.int x0), (.int x1), (.int x2), (.int (nar .byte (vv.toInt8.toInt32)))] := Px.push Ar13 qq13 Sz13 Nn13 Hs13 Gf13 (by first | rfl | exact fits_nar_byte _) W15 rfl
  have N18 := Fr.snoc X15 N11 hq1_1
  have f19 := ((hq1_3.other W8 (Or.inr (slot_ne (Or.inl wo17) (Or.inl wo28) (by decide) (t := (.array .byte)) (t' := .int) (by decide) (by decide)))).other W15 (Or.inl hq1_2))
  have f20 := (f10.other W15 (Or.inl hq1_2))
  obtain ⟨fs, hr, hrun, hended, hW, hsame⟩ := X15.leave (v := none) (fun _ => rfl)
  refine ⟨_, _, pre0 _ ?_, hrun, hended, _, _, rfl, ?_, ⟨_, rfl⟩, hW, hsame.mono (by decide) (by decide)⟩
  · show Steps p.tables e below (s₁.setTop (mkF m 0 #[rv a4_0, iv vv] [])) _
    refine XS.aloadN X0.here hx rfl (hb hby d4_0) rfl rfl ?_
    show Steps p.tables e below (s₁.setTop (mkF m 1 #[rv a4_0, iv vv] [(.ref a4_0)])) _
    refine XS.iconst X0.here hx rfl (hb hby d4_1) ?_
    show Steps p.tables e below (s₁.setTop (mkF m 2 #[rv a4_0, iv vv] [(.int (1 : Int32)), (.ref a4_0)])) _
    refine st1.trans ?_
    show Steps p.tables e below (T1.setTop (mkF m 5 #[rv a4_0, iv vv] [])) _
    refine XS.aloadN X1.here hx rfl (hb hby d4_5) rfl rfl ?_
    show Steps p.tables e below (T1.setTop (mkF m 6 #[rv a4_0, iv vv] [(.ref a4_0)])) _
    refine st5 _ ?_
    show Steps p.tables e below (T5.setTop (mkF m 9 #[rv a4_0, iv vv] [(.ref ar2_1)])) _
    refine XS.aloadN X5.here hx rfl (hb hby d4_9) rfl rfl ?_
    refine XS.dup X5.here hx rfl (hb hby d4_10) rfl rfl ?_
    show Steps p.tables e below (T5.setTop (mkF m 11 #[rv a4_0, iv vv] [(.ref a4_0), (.ref a4_0), (.ref ar2_1)])) _
    refine st6 _ ?_
    show Steps p.tables e below (T6.setTop (mkF m 14 #[rv a4_0, iv vv] [(.int (3 : Int32)), (.ref a4_0), (.ref ar2_1)])) _
    refine XS.dupX1 X6.here hx rfl (hb hby d4_14) rfl rfl rfl ?_
    show Steps p.tables e below (T6.setTop (mkF m 15 #[rv a4_0, iv vv] [(.int (3 : Int32)), (.ref a4_0), (.int (3 : Int32)), (.ref ar2_1)])) _
    refine XS.iconst X6.here hx rfl (hb hby d4_15) ?_
    refine XS.iadd X6.here hx rfl (hb hby d4_16) rfl ?_
    show Steps p.tables e below (T6.setTop (mkF m 17 #[rv a4_0, iv vv] [(.int (4 : Int32)), (.ref a4_0), (.int (3 : Int32)), (.ref ar2_1)])) _
    refine st8 _ ?_
    show Steps p.tables e below (T8.setTop (mkF m 20 #[rv a4_0, iv vv] [(.int (3 : Int32)), (.ref ar2_1)])) _
    refine XS.iloadN X8.here hx rfl (hb hby d4_20) rfl ?_
    show Steps p.tables e below (T8.setTop (mkF m 21 #[rv a4_0, iv vv] [(.int vv), (.int (3 : Int32)), (.ref ar2_1)])) _
    refine XS.i2b X8.here hx rfl (hb hby d4_21) rfl ?_
    show Steps p.tables e below (T8.setTop (mkF m 22 #[rv a4_0, iv vv] [(.int (vv.toInt8.toInt32)), (.int (3 : Int32)), (.ref ar2_1)])) _
    refine st15 _ ?_
    show Steps p.tables e below (T15.setTop (mkF m 23 #[rv a4_0, iv vv] [])) _
    exact X15.returnOut hx Bd.returns (hb hby d4_23) hr
  · show Q_rm_wr3 Z _ _ _ _ _ _ _ h0 n0 _ T15.heap _
    rw [e15]
    exact ⟨ar2_1, ln2_1, rfl, N18, (K16), dz4, hq1_1, hq1_2, f19, f20, f17, (by have q := hq1_6; simp only [Int32.reduceToInt] at *; omega), hq1_7⟩
theorem d9_0 : decode prog_15_method_11_code 0 = .ok (.iload_n 1, 1) := by decide +kernel
theorem d9_1 : decode prog_15_method_11_code 1 = .ok (.istore_n 2, 1) := by decide +kernel
theorem d9_2 : decode prog_15_method_11_code 2 = .ok (.iload_n 2, 1) := by decide +kernel
theorem d9_3 : decode prog_15_method_11_code 3 = .ok (.aload_n 0, 1) := by decide +kernel
theorem d9_4 : decode prog_15_method_11_code 4 = .ok (.getfield 28, 3) := by decide +kernel
theorem d9_7 : decode prog_15_method_11_code 7 = .ok (.if_icmp .ge 24, 3) := by decide +kernel
theorem d9_31 : decode prog_15_method_11_code 31 = .ok (.return_, 1) := by decide +kernel
theorem ef_rm_in0_0 (m : MethodId) (x0 : Addr) (x1 : Int32) : entryFrame m #[(.ref x0), (.int x1)] 3 = mkF m 0 #[rv x0, iv x1, .unset] [] := by first | (simp [entryFrame, mkF, argsToLocals, Value.category]; done) | rfl
def Q_rm_in0_0 (Z : State) (a9_0 : Addr) (ar : Addr) (ln : Int32) (h0 : Heap) (n0 : Nat) (v : Option Value) (h : Heap) (L : List Loc) : Prop := v = none ∧ Fr n0 L ∧ Keep h0 h [ar] ∧ (Px Z h ar .byte ln [])
set_option maxRecDepth 65536 in
set_option maxHeartbeats 40000000 in
theorem rm_in0_0 (l : Launch) (Z : State) (a0 : Array Value) (hw : ∀ d ∈ tables_1, d.before a0 Z = true) (ws : List Jvm.Cond) (a9_0 : Addr) (ar : Addr) (ln : Int32) (h0 : Heap) (n0 : Nat) (Z0 : n0 ≤ h0.size) (pf_G_ar : n0 ≤ ar) (pf_NE_a9_0_ar : a9_0 ≠ ar) (pf_F_a9_0_bytes : Fld Z h0 a9_0 "com/example/dido/dido/keys/KeyWriter" "bytes" "[B" (.ref ar)) (pf_F_a9_0_size : Fld Z h0 a9_0 "com/example/dido/dido/keys/KeyWriter" "size" "I" (.int (0 : Int32))) (pf_X_ar : Px Z h0 ar .byte ln []) (hle : (0 : Int32).toInt ≤ ln.toInt) :
    MetFree l (⟨"com/example/dido/dido/keys/KeyWriter", "invert", "(I)V"⟩ : MethodName) (head1 (Jvm.Cond.code (⟨"com/example/dido/dido/keys/KeyWriter", "invert", "(I)V"⟩ : MethodName) prog_15_method_11_code 3 none :: ws) ({ frames := 0, cells := 0, slots := 0, locals := 0 } : Room)) (fun a U => a = #[(.ref a9_0), (.int (0 : Int32))] ∧ Z.Warmed39 U.vm ∧ U.heap = h0) (fun _ _ _ _ _ => True) (fun _ U o U' => ∃ v L, o = .returned v ∧ Q_rm_in0_0 Z a9_0 ar ln h0 n0 v U'.heap L ∧ FrameEnd U o U' L ({ frames := 0, cells := 0, slots := 0, locals := 0 } : Room).cells ({ frames := 0, cells := 0, slots := 0, locals := 0 } : Room).slots) := by
  refine MetFree.of_bodySF (plainFor_of_name pn_com_example_dido_dido_keys_KeyWriter) hisR ?_
  intro p e s m args below meth c s₁ Bd hml0 hP hK
  obtain ⟨rfl, hZ, hh⟩ := hP
  have hx := Bd.exec
  have hby := Bd.bytes
  have hml : c.maxLocals = 3 := hml0
  have hown : s.vm.findClass "com/example/dido/dido/keys/KeyWriter" = some m.cls := findClass_of_methodNamed Bd.named
  have hnm := (name_of_methodNamed Bd.named Bd.method).1
  have X0 : Stand p l e ({ frames := 0, cells := 0, slots := 0, locals := 0 } : Room) s m #[(.ref a9_0), (.int (0 : Int32))] below meth c s₁ [] 0 0 := Stand.of_body Bd
  have e0 : s₁.heap = h0 := by rw [← hh, Bd.state]; rfl
  have N0 := Fr.nil n0
  have pre0 : ∀ t, Steps p.tables e below (s₁.setTop (mkF m 0 #[rv a9_0, iv (0 : Int32), .unset] [])) t → Steps p.tables e below (s₁.setTop (entryFrame m #[(.ref a9_0), (.int (0 : Int32))] 3)) t := fun t k => castTop (ef_rm_in0_0 m a9_0 (0 : Int32)) k
  have wo27 := hw _ (List.mem_of_getElem? (i := 27) rfl)
  obtain ⟨T1, X1, e1, st1⟩ := getF X0 hx hZ hown (host := "") (Or.inl wo27) Via.refl e0 pf_F_a9_0_size (g := (mkF m 4 #[rv a9_0, iv (0 : Int32), iv (0 : Int32)] [(.ref a9_0), (.int (0 : Int32))])) rfl rfl (hb hby d9_4)
  obtain ⟨fs, hr, hrun, hended, hW, hsame⟩ := X1.leave (v := none) (fun _ => rfl)
  refine ⟨_, _, pre0 _ ?_, hrun, hended, _, _, rfl, ?_, ⟨_, rfl⟩, hW, hsame.mono (by decide) (by decide)⟩
  · show Steps p.tables e below (s₁.setTop (mkF m 0 #[rv a9_0, iv (0 : Int32), .unset] [])) _
    refine XS.iloadN X0.here hx rfl (hb hby d9_0) rfl ?_
    show Steps p.tables e below (s₁.setTop (mkF m 1 #[rv a9_0, iv (0 : Int32), .unset] [(.int (0 : Int32))])) _
    refine XS.istoreN X0.here hx rfl (hb hby d9_1) rfl (l' := #[rv a9_0, iv (0 : Int32), iv (0 : Int32)]) rfl ?_
    refine XS.iloadN X0.here hx rfl (hb hby d9_2) rfl ?_
    refine XS.aloadN X0.here hx rfl (hb hby d9_3) rfl rfl ?_
    show Steps p.tables e below (s₁.setTop (mkF m 4 #[rv a9_0, iv (0 : Int32), iv (0 : Int32)] [(.ref a9_0), (.int (0 : Int32))])) _
    refine st1 _ ?_
    show Steps p.tables e below (T1.setTop (mkF m 7 #[rv a9_0, iv (0 : Int32), iv (0 : Int32)] [(.int (0 : Int32)), (.int (0 : Int32))])) _
    refine XS.icmpYes X1.here hx rfl (pc0 := 7) (pc' := 31) rfl (hb hby d9_7) rfl (flt (by decide : ¬ ((0 : Int32) < (0 : Int32)))).2.1 (by decide) (by decide) ?_
    show Steps p.tables e below (T1.setTop (mkF m 31 #[rv a9_0, iv (0 : Int32), iv (0 : Int32)] [])) _
    exact X1.returnOut hx Bd.returns (hb hby d9_31) hr
  · show Q_rm_in0_0 Z _ _ _ h0 n0 _ T1.heap _
    rw [e1]
    exact ⟨rfl, N0, (Keep.refl h0 [ar]), pf_X_ar⟩
theorem d9_10 : decode prog_15_method_11_code 10 = .ok (.aload_n 0, 1) := by decide +kernel
theorem d9_11 : decode prog_15_method_11_code 11 = .ok (.getfield 24, 3) := by decide +kernel
theorem d9_14 : decode prog_15_method_11_code 14 = .ok (.iload_n 2, 1) := by decide +kernel
theorem d9_15 : decode prog_15_method_11_code 15 = .ok (.aload_n 0, 1) := by decide +kernel
theorem d9_16 : decode prog_15_method_11_code 16 = .ok (.getfield 24, 3) := by decide +kernel
theorem d9_19 : decode prog_15_method_11_code 19 = .ok (.iload_n 2, 1) := by decide +kernel
theorem d9_20 : decode prog_15_method_11_code 20 = .ok (.baload, 1) := by decide +kernel
theorem d9_21 : decode prog_15_method_11_code 21 = .ok (.iconst (-1), 1) := by decide +kernel
theorem d9_22 : decode prog_15_method_11_code 22 = .ok (.ixor, 1) := by decide +kernel
theorem d9_23 : decode prog_15_method_11_code 23 = .ok (.i2b, 1) := by decide +kernel
theorem d9_24 : decode prog_15_method_11_code 24 = .ok (.bastore, 1) := by decide +kernel
theorem d9_25 : decode prog_15_method_11_code 25 = .ok (.iinc 2 1, 3) := by decide +kernel
theorem d9_28 : decode prog_15_method_11_code 28 = .ok (.goto (-26), 3) := by decide +kernel
theorem ef_rm_in1_0 (m : MethodId) (x0 : Addr) (x1 : Int32) : entryFrame m #[(.ref x0), (.int x1)] 3 = mkF m 0 #[rv x0, iv x1, .unset] [] := by first | (simp [entryFrame, mkF, argsToLocals, Value.category]; done) | rfl
def Q_rm_in1_0 (Z : State) (a9_0 : Addr) (ar : Addr) (ln : Int32) (x0 : Int32) (h0 : Heap) (n0 : Nat) (v : Option Value) (h : Heap) (L : List Loc) : Prop := v = none ∧ Fr n0 L ∧ Keep h0 h [ar] ∧ (Px Z h ar .byte ln [(.int (nar .byte ((x0 ^^^ (-1 : Int32)).toInt8.toInt32)))])
set_option maxRecDepth 65536 in
set_option maxHeartbeats 40000000 in
theorem rm_in1_0 (l : Launch) (Z : State) (a0 : Array Value) (hw : ∀ d ∈ tables_1, d.before a0 Z = true) (ws : List Jvm.Cond) (a9_0 : Addr) (ar : Addr) (ln : Int32) (x0 : Int32) (h0 : Heap) (n0 : Nat) (Z0 : n0 ≤ h0.size) (pf_G_ar : n0 ≤ ar) (pf_NE_a9_0_ar : a9_0 ≠ ar) (pf_F_a9_0_bytes : Fld Z h0 a9_0 "com/example/dido/dido/keys/KeyWriter" "bytes" "[B" (.ref ar)) (pf_F_a9_0_size : Fld Z h0 a9_0 "com/example/dido/dido/keys/KeyWriter" "size" "I" (.int (1 : Int32))) (pf_X_ar : Px Z h0 ar .byte ln [(.int x0)]) (hle : (1 : Int32).toInt ≤ ln.toInt) :
    MetFree l (⟨"com/example/dido/dido/keys/KeyWriter", "invert", "(I)V"⟩ : MethodName) (head1 (Jvm.Cond.code (⟨"com/example/dido/dido/keys/KeyWriter", "invert", "(I)V"⟩ : MethodName) prog_15_method_11_code 3 none :: ws) ({ frames := 0, cells := 0, slots := 0, locals := 0 } : Room)) (fun a U => a = #[(.ref a9_0), (.int (0 : Int32))] ∧ Z.Warmed39 U.vm ∧ U.heap = h0) (fun _ _ _ _ _ => True) (fun _ U o U' => ∃ v L, o = .returned v ∧ Q_rm_in1_0 Z a9_0 ar ln x0 h0 n0 v U'.heap L ∧ FrameEnd U o U' L ({ frames := 0, cells := 0, slots := 0, locals := 0 } : Room).cells ({ frames := 0, cells := 0, slots := 0, locals := 0 } : Room).slots) := by
  refine MetFree.of_bodySF (plainFor_of_name pn_com_example_dido_dido_keys_KeyWriter) hisR ?_
  intro p e s m args below meth c s₁ Bd hml0 hP hK
  obtain ⟨rfl, hZ, hh⟩ := hP
  have hx := Bd.exec
  have hby := Bd.bytes
  have hml : c.maxLocals = 3 := hml0
  have hown : s.vm.findClass "com/example/dido/dido/keys/KeyWriter" = some m.cls := findClass_of_methodNamed Bd.named
  have hnm := (name_of_methodNamed Bd.named Bd.method).1
  have X0 : Stand p l e ({ frames := 0, cells := 0, slots := 0, locals := 0 } : Room) s m #[(.ref a9_0), (.int (0 : Int32))] below meth c s₁ [] 0 0 := Stand.of_body Bd
  have e0 : s₁.heap = h0 := by rw [← hh, Bd.state]; rfl
  have N0 := Fr.nil n0
  have pre0 : ∀ t, Steps p.tables e below (s₁.setTop (mkF m 0 #[rv a9_0, iv (0 : Int32), .unset] [])) t → Steps p.tables e below (s₁.setTop (entryFrame m #[(.ref a9_0), (.int (0 : Int32))] 3)) t := fun t k => castTop (ef_rm_in1_0 m a9_0 (0 : Int32)) k
  have wo16 := hw _ (List.mem_of_getElem? (i := 16) rfl)
  have wo27 := hw _ (List.mem_of_getElem? (i := 27) rfl)
  obtain ⟨T1, X1, e1, st1⟩ := getF X0 hx hZ hown (host := "") (Or.inl wo27) Via.refl e0 pf_F_a9_0_size (g := (mkF m 4 #[rv a9_0, iv (0 : Int32), iv (0 : Int32)] [(.ref a9_0), (.int (0 : Int32))])) rfl rfl (hb hby d9_4)
  obtain ⟨T2, X2, e2, st2⟩ := getF X1 hx hZ hown (host := "") (Or.inl wo16) Via.refl e1 pf_F_a9_0_bytes (g := (mkF m 11 #[rv a9_0, iv (0 : Int32), iv (0 : Int32)] [(.ref a9_0)])) rfl rfl (hb hby d9_11)
  obtain ⟨T3, X3, e3, st3⟩ := getF X2 hx hZ hown (host := "") (Or.inl wo16) Via.refl e2 pf_F_a9_0_bytes (g := (mkF m 16 #[rv a9_0, iv (0 : Int32), iv (0 : Int32)] [(.ref a9_0), (.int (0 : Int32)), (.ref ar)])) rfl rfl (hb hby d9_16)
  obtain ⟨re4, kk4, cl4, Ar4, qq4, Sz4, Nn4, Hs4, Gf4⟩ := id pf_X_ar
  have hin5 : ¬ ((0 : Int32) < 0 ∨ cl4.slots.size ≤ ((0 : Int32)).toNatClampNeg) := inb_of Sz4 (own_idx _ (1 : Int32) _ hle (by decide) (by decide))
  have hat6 : cl4.slots[((0 : Int32)).toNatClampNeg]? = some (.int x0) := Has.at Hs4 hin5 rfl
  obtain ⟨re7, kk7, cl7, Ar7, qq7, Sz7, Nn7, Hs7, Gf7⟩ := id pf_X_ar
  have hin8 : ¬ ((0 : Int32) < 0 ∨ cl7.slots.size ≤ ((0 : Int32)).toNatClampNeg) := inb_of Sz7 (own_idx _ (1 : Int32) _ hle (by decide) (by decide))
  obtain ⟨T9, h9, X9, e9, W9, st9⟩ := stB X3 hx hZ e3 Ar7 (j := (0 : Int32)) hin8 (g := (mkF m 24 #[rv a9_0, iv (0 : Int32), iv (0 : Int32)] [(.int ((x0 ^^^ (-1 : Int32)).toInt8.toInt32)), (.int (0 : Int32)), (.ref ar)])) rfl rfl (hb hby d9_24)
  have K10 : Keep h0 h9 [ar] := (Keep.refl h0 [ar]).wr W9 (Or.inl (List.mem_of_getElem? (i := 0) rfl))
  have f11 : Px Z h9 ar .byte ln [(.int (nar .byte ((x0 ^^^ (-1 : Int32)).toInt8.toInt32)))] := ⟨_, _, Arv.set Ar7 qq7 Sz7 Nn7 Hs7 Gf7 (by first | rfl | exact fits_nar_byte _) W9 0 rfl (by simp only [List.length_append, List.length_cons, List.length_nil]; omega)⟩
  have N12 := Fr.snoc X9 N0 pf_G_ar
  have f13 := (pf_F_a9_0_size.other W9 (Or.inl pf_NE_a9_0_ar))
  obtain ⟨T14, X14, e14, st14⟩ := getF X9 hx hZ hown (host := "") (Or.inl wo27) Via.refl e9 f13 (g := (mkF m 4 #[rv a9_0, iv (0 : Int32), iv (1 : Int32)] [(.ref a9_0), (.int (1 : Int32))])) rfl rfl (hb hby d9_4)
  obtain ⟨fs, hr, hrun, hended, hW, hsame⟩ := X14.leave (v := none) (fun _ => rfl)
  refine ⟨_, _, pre0 _ ?_, hrun, hended, _, _, rfl, ?_, ⟨_, rfl⟩, hW, hsame.mono (by decide) (by decide)⟩
  · show Steps p.tables e below (s₁.setTop (mkF m 0 #[rv a9_0, iv (0 : Int32), .unset] [])) _
    refine XS.iloadN X0.here hx rfl (hb hby d9_0) rfl ?_
    show Steps p.tables e below (s₁.setTop (mkF m 1 #[rv a9_0, iv (0 : Int32), .unset] [(.int (0 : Int32))])) _
    refine XS.istoreN X0.here hx rfl (hb hby d9_1) rfl (l' := #[rv a9_0, iv (0 : Int32), iv (0 : Int32)]) rfl ?_
    refine XS.iloadN X0.here hx rfl (hb hby d9_2) rfl ?_
    refine XS.aloadN X0.here hx rfl (hb hby d9_3) rfl rfl ?_
    show Steps p.tables e below (s₁.setTop (mkF m 4 #[rv a9_0, iv (0 : Int32), iv (0 : Int32)] [(.ref a9_0), (.int (0 : Int32))])) _
    refine st1 _ ?_
    show Steps p.tables e below (T1.setTop (mkF m 7 #[rv a9_0, iv (0 : Int32), iv (0 : Int32)] [(.int (1 : Int32)), (.int (0 : Int32))])) _
    refine XS.icmpNo X1.here hx rfl (hb hby d9_7) rfl (tlt (by decide : (0 : Int32) < (1 : Int32))).2.1 ?_
    refine XS.aloadN X1.here hx rfl (hb hby d9_10) rfl rfl ?_
    show Steps p.tables e below (T1.setTop (mkF m 11 #[rv a9_0, iv (0 : Int32), iv (0 : Int32)] [(.ref a9_0)])) _
    refine st2 _ ?_
    show Steps p.tables e below (T2.setTop (mkF m 14 #[rv a9_0, iv (0 : Int32), iv (0 : Int32)] [(.ref ar)])) _
    refine XS.iloadN X2.here hx rfl (hb hby d9_14) rfl ?_
    show Steps p.tables e below (T2.setTop (mkF m 15 #[rv a9_0, iv (0 : Int32), iv (0 : Int32)] [(.int (0 : Int32)), (.ref ar)])) _
    refine XS.aloadN X2.here hx rfl (hb hby d9_15) rfl rfl ?_
    show Steps p.tables e below (T2.setTop (mkF m 16 #[rv a9_0, iv (0 : Int32), iv (0 : Int32)] [(.ref a9_0), (.int (0 : Int32)), (.ref ar)])) _
    refine st3 _ ?_
    show Steps p.tables e below (T3.setTop (mkF m 19 #[rv a9_0, iv (0 : Int32), iv (0 : Int32)] [(.ref ar), (.int (0 : Int32)), (.ref ar)])) _
    refine XS.iloadN X3.here hx rfl (hb hby d9_19) rfl ?_
    show Steps p.tables e below (T3.setTop (mkF m 20 #[rv a9_0, iv (0 : Int32), iv (0 : Int32)] [(.int (0 : Int32)), (.ref ar), (.int (0 : Int32)), (.ref ar)])) _
    refine X3.baloadBytes hx (j := (0 : Int32)) (v := (.int x0)) (by rw [e3]; exact Ar4.1) (State.isArrayOf_alike hZ.alike Ar4.2.1) Ar4.2.2 hin5 hat6 (g := (mkF m 20 #[rv a9_0, iv (0 : Int32), iv (0 : Int32)] [(.int (0 : Int32)), (.ref ar), (.int (0 : Int32)), (.ref ar)])) rfl rfl (hb hby d9_20) _ ?_
    show Steps p.tables e below (T3.setTop (mkF m 21 #[rv a9_0, iv (0 : Int32), iv (0 : Int32)] [(.int x0), (.int (0 : Int32)), (.ref ar)])) _
    refine XS.iconst X3.here hx rfl (hb hby d9_21) ?_
    refine XS.ixor X3.here hx rfl (hb hby d9_22) rfl ?_
    refine XS.i2b X3.here hx rfl (hb hby d9_23) rfl ?_
    show Steps p.tables e below (T3.setTop (mkF m 24 #[rv a9_0, iv (0 : Int32), iv (0 : Int32)] [(.int ((x0 ^^^ (-1 : Int32)).toInt8.toInt32)), (.int (0 : Int32)), (.ref ar)])) _
    refine st9 _ ?_
    show Steps p.tables e below (T9.setTop (mkF m 25 #[rv a9_0, iv (0 : Int32), iv (0 : Int32)] [])) _
    refine XS.iinc X9.here hx rfl (hb hby d9_25) rfl (l' := #[rv a9_0, iv (0 : Int32), iv (1 : Int32)]) rfl ?_
    refine XS.goto X9.here hx rfl (pc0 := 28) (pc' := 2) rfl (hb hby d9_28) (by decide) (by decide) ?_
    refine XS.iloadN X9.here hx rfl (hb hby d9_2) rfl ?_
    refine XS.aloadN X9.here hx rfl (hb hby d9_3) rfl rfl ?_
    show Steps p.tables e below (T9.setTop (mkF m 4 #[rv a9_0, iv (0 : Int32), iv (1 : Int32)] [(.ref a9_0), (.int (1 : Int32))])) _
    refine st14 _ ?_
    show Steps p.tables e below (T14.setTop (mkF m 7 #[rv a9_0, iv (0 : Int32), iv (1 : Int32)] [(.int (1 : Int32)), (.int (1 : Int32))])) _
    refine XS.icmpYes X14.here hx rfl (pc0 := 7) (pc' := 31) rfl (hb hby d9_7) rfl (flt (by decide : ¬ ((1 : Int32) < (1 : Int32)))).2.1 (by decide) (by decide) ?_
    show Steps p.tables e below (T14.setTop (mkF m 31 #[rv a9_0, iv (0 : Int32), iv (1 : Int32)] [])) _
    exact X14.returnOut hx Bd.returns (hb hby d9_31) hr
  · show Q_rm_in1_0 Z _ _ _ _ h0 n0 _ T14.heap _
    rw [e14]
    exact ⟨rfl, N12, (K10), f11⟩
theorem ef_rm_in1_1 (m : MethodId) (x0 : Addr) (x1 : Int32) : entryFrame m #[(.ref x0), (.int x1)] 3 = mkF m 0 #[rv x0, iv x1, .unset] [] := by first | (simp [entryFrame, mkF, argsToLocals, Value.category]; done) | rfl
def Q_rm_in1_1 (Z : State) (a9_0 : Addr) (ar : Addr) (ln : Int32) (x0 : Int32) (h0 : Heap) (n0 : Nat) (v : Option Value) (h : Heap) (L : List Loc) : Prop := v = none ∧ Fr n0 L ∧ Keep h0 h [ar] ∧ (Px Z h ar .byte ln [(.int x0)])
set_option maxRecDepth 65536 in
set_option maxHeartbeats 40000000 in
theorem rm_in1_1 (l : Launch) (Z : State) (a0 : Array Value) (hw : ∀ d ∈ tables_1, d.before a0 Z = true) (ws : List Jvm.Cond) (a9_0 : Addr) (ar : Addr) (ln : Int32) (x0 : Int32) (h0 : Heap) (n0 : Nat) (Z0 : n0 ≤ h0.size) (pf_G_ar : n0 ≤ ar) (pf_NE_a9_0_ar : a9_0 ≠ ar) (pf_F_a9_0_bytes : Fld Z h0 a9_0 "com/example/dido/dido/keys/KeyWriter" "bytes" "[B" (.ref ar)) (pf_F_a9_0_size : Fld Z h0 a9_0 "com/example/dido/dido/keys/KeyWriter" "size" "I" (.int (1 : Int32))) (pf_X_ar : Px Z h0 ar .byte ln [(.int x0)]) (hle : (1 : Int32).toInt ≤ ln.toInt) :
    MetFree l (⟨"com/example/dido/dido/keys/KeyWriter", "invert", "(I)V"⟩ : MethodName) (head1 (Jvm.Cond.code (⟨"com/example/dido/dido/keys/KeyWriter", "invert", "(I)V"⟩ : MethodName) prog_15_method_11_code 3 none :: ws) ({ frames := 0, cells := 0, slots := 0, locals := 0 } : Room)) (fun a U => a = #[(.ref a9_0), (.int (1 : Int32))] ∧ Z.Warmed39 U.vm ∧ U.heap = h0) (fun _ _ _ _ _ => True) (fun _ U o U' => ∃ v L, o = .returned v ∧ Q_rm_in1_1 Z a9_0 ar ln x0 h0 n0 v U'.heap L ∧ FrameEnd U o U' L ({ frames := 0, cells := 0, slots := 0, locals := 0 } : Room).cells ({ frames := 0, cells := 0, slots := 0, locals := 0 } : Room).slots) := by
  refine MetFree.of_bodySF (plainFor_of_name pn_com_example_dido_dido_keys_KeyWriter) hisR ?_
  intro p e s m args below meth c s₁ Bd hml0 hP hK
  obtain ⟨rfl, hZ, hh⟩ := hP
  have hx := Bd.exec
  have hby := Bd.bytes
  have hml : c.maxLocals = 3 := hml0
  have hown : s.vm.findClass "com/example/dido/dido/keys/KeyWriter" = some m.cls := findClass_of_methodNamed Bd.named
  have hnm := (name_of_methodNamed Bd.named Bd.method).1
  have X0 : Stand p l e ({ frames := 0, cells := 0, slots := 0, locals := 0 } : Room) s m #[(.ref a9_0), (.int (1 : Int32))] below meth c s₁ [] 0 0 := Stand.of_body Bd
  have e0 : s₁.heap = h0 := by rw [← hh, Bd.state]; rfl
  have N0 := Fr.nil n0
  have pre0 : ∀ t, Steps p.tables e below (s₁.setTop (mkF m 0 #[rv a9_0, iv (1 : Int32), .unset] [])) t → Steps p.tables e below (s₁.setTop (entryFrame m #[(.ref a9_0), (.int (1 : Int32))] 3)) t := fun t k => castTop (ef_rm_in1_1 m a9_0 (1 : Int32)) k
  have wo27 := hw _ (List.mem_of_getElem? (i := 27) rfl)
  obtain ⟨T1, X1, e1, st1⟩ := getF X0 hx hZ hown (host := "") (Or.inl wo27) Via.refl e0 pf_F_a9_0_size (g := (mkF m 4 #[rv a9_0, iv (1 : Int32), iv (1 : Int32)] [(.ref a9_0), (.int (1 : Int32))])) rfl rfl (hb hby d9_4)
  obtain ⟨fs, hr, hrun, hended, hW, hsame⟩ := X1.leave (v := none) (fun _ => rfl)
  refine ⟨_, _, pre0 _ ?_, hrun, hended, _, _, rfl, ?_, ⟨_, rfl⟩, hW, hsame.mono (by decide) (by decide)⟩
  · show Steps p.tables e below (s₁.setTop (mkF m 0 #[rv a9_0, iv (1 : Int32), .unset] [])) _
    refine XS.iloadN X0.here hx rfl (hb hby d9_0) rfl ?_
    show Steps p.tables e below (s₁.setTop (mkF m 1 #[rv a9_0, iv (1 : Int32), .unset] [(.int (1 : Int32))])) _
    refine XS.istoreN X0.here hx rfl (hb hby d9_1) rfl (l' := #[rv a9_0, iv (1 : Int32), iv (1 : Int32)]) rfl ?_
    refine XS.iloadN X0.here hx rfl (hb hby d9_2) rfl ?_
    refine XS.aloadN X0.here hx rfl (hb hby d9_3) rfl rfl ?_
    show Steps p.tables e below (s₁.setTop (mkF m 4 #[rv a9_0, iv (1 : Int32), iv (1 : Int32)] [(.ref a9_0), (.int (1 : Int32))])) _
    refine st1 _ ?_
    show Steps p.tables e below (T1.setTop (mkF m 7 #[rv a9_0, iv (1 : Int32), iv (1 : Int32)] [(.int (1 : Int32)), (.int (1 : Int32))])) _
    refine XS.icmpYes X1.here hx rfl (pc0 := 7) (pc' := 31) rfl (hb hby d9_7) rfl (flt (by decide : ¬ ((1 : Int32) < (1 : Int32)))).2.1 (by decide) (by decide) ?_
    show Steps p.tables e below (T1.setTop (mkF m 31 #[rv a9_0, iv (1 : Int32), iv (1 : Int32)] [])) _
    exact X1.returnOut hx Bd.returns (hb hby d9_31) hr
  · show Q_rm_in1_1 Z _ _ _ _ h0 n0 _ T1.heap _
    rw [e1]
    exact ⟨rfl, N0, (Keep.refl h0 [ar]), pf_X_ar⟩
theorem ef_rm_in2_0 (m : MethodId) (x0 : Addr) (x1 : Int32) : entryFrame m #[(.ref x0), (.int x1)] 3 = mkF m 0 #[rv x0, iv x1, .unset] [] := by first | (simp [entryFrame, mkF, argsToLocals, Value.category]; done) | rfl
def Q_rm_in2_0 (Z : State) (a9_0 : Addr) (ar : Addr) (ln : Int32) (x0 : Int32) (x1 : Int32) (h0 : Heap) (n0 : Nat) (v : Option Value) (h : Heap) (L : List Loc) : Prop := v = none ∧ Fr n0 L ∧ Keep h0 h [ar] ∧ (Px Z h ar .byte ln [(.int (nar .byte ((x0 ^^^ (-1 : Int32)).toInt8.toInt32))), (.int (nar .byte ((x1 ^^^ (-1 : Int32)).toInt8.toInt32)))])
set_option maxRecDepth 65536 in
set_option maxHeartbeats 40000000 in
theorem rm_in2_0 (l : Launch) (Z : State) (a0 : Array Value) (hw : ∀ d ∈ tables_1, d.before a0 Z = true) (ws : List Jvm.Cond) (a9_0 : Addr) (ar : Addr) (ln : Int32) (x0 : Int32) (x1 : Int32) (h0 : Heap) (n0 : Nat) (Z0 : n0 ≤ h0.size) (pf_G_ar : n0 ≤ ar) (pf_NE_a9_0_ar : a9_0 ≠ ar) (pf_F_a9_0_bytes : Fld Z h0 a9_0 "com/example/dido/dido/keys/KeyWriter" "bytes" "[B" (.ref ar)) (pf_F_a9_0_size : Fld Z h0 a9_0 "com/example/dido/dido/keys/KeyWriter" "size" "I" (.int (2 : Int32))) (pf_X_ar : Px Z h0 ar .byte ln [(.int x0), (.int x1)]) (hle : (2 : Int32).toInt ≤ ln.toInt) :
    MetFree l (⟨"com/example/dido/dido/keys/KeyWriter", "invert", "(I)V"⟩ : MethodName) (head1 (Jvm.Cond.code (⟨"com/example/dido/dido/keys/KeyWriter", "invert", "(I)V"⟩ : MethodName) prog_15_method_11_code 3 none :: ws) ({ frames := 0, cells := 0, slots := 0, locals := 0 } : Room)) (fun a U => a = #[(.ref a9_0), (.int (0 : Int32))] ∧ Z.Warmed39 U.vm ∧ U.heap = h0) (fun _ _ _ _ _ => True) (fun _ U o U' => ∃ v L, o = .returned v ∧ Q_rm_in2_0 Z a9_0 ar ln x0 x1 h0 n0 v U'.heap L ∧ FrameEnd U o U' L ({ frames := 0, cells := 0, slots := 0, locals := 0 } : Room).cells ({ frames := 0, cells := 0, slots := 0, locals := 0 } : Room).slots) := by
  refine MetFree.of_bodySF (plainFor_of_name pn_com_example_dido_dido_keys_KeyWriter) hisR ?_
  intro p e s m args below meth c s₁ Bd hml0 hP hK
  obtain ⟨rfl, hZ, hh⟩ := hP
  have hx := Bd.exec
  have hby := Bd.bytes
  have hml : c.maxLocals = 3 := hml0
  have hown : s.vm.findClass "com/example/dido/dido/keys/KeyWriter" = some m.cls := findClass_of_methodNamed Bd.named
  have hnm := (name_of_methodNamed Bd.named Bd.method).1
  have X0 : Stand p l e ({ frames := 0, cells := 0, slots := 0, locals := 0 } : Room) s m #[(.ref a9_0), (.int (0 : Int32))] below meth c s₁ [] 0 0 := Stand.of_body Bd
  have e0 : s₁.heap = h0 := by rw [← hh, Bd.state]; rfl
  have N0 := Fr.nil n0
  have pre0 : ∀ t, Steps p.tables e below (s₁.setTop (mkF m 0 #[rv a9_0, iv (0 : Int32), .unset] [])) t → Steps p.tables e below (s₁.setTop (entryFrame m #[(.ref a9_0), (.int (0 : Int32))] 3)) t := fun t k => castTop (ef_rm_in2_0 m a9_0 (0 : Int32)) k
  have wo16 := hw _ (List.mem_of_getElem? (i := 16) rfl)
  have wo27 := hw _ (List.mem_of_getElem? (i := 27) rfl)
  obtain ⟨T1, X1, e1, st1⟩ := getF X0 hx hZ hown (host := "") (Or.inl wo27) Via.refl e0 pf_F_a9_0_size (g := (mkF m 4 #[rv a9_0, iv (0 : Int32), iv (0 : Int32)] [(.ref a9_0), (.int (0 : Int32))])) rfl rfl (hb hby d9_4)
  obtain ⟨T2, X2, e2, st2⟩ := getF X1 hx hZ hown (host := "") (Or.inl wo16) Via.refl e1 pf_F_a9_0_bytes (g := (mkF m 11 #[rv a9_0, iv (0 : Int32), iv (0 : Int32)] [(.ref a9_0)])) rfl rfl (hb hby d9_11)
  obtain ⟨T3, X3, e3, st3⟩ := getF X2 hx hZ hown (host := "") (Or.inl wo16) Via.refl e2 pf_F_a9_0_bytes (g := (mkF m 16 #[rv a9_0, iv (0 : Int32), iv (0 : Int32)] [(.ref a9_0), (.int (0 : Int32)), (.ref ar)])) rfl rfl (hb hby d9_16)
  obtain ⟨re4, kk4, cl4, Ar4, qq4, Sz4, Nn4, Hs4, Gf4⟩ := id pf_X_ar
  have hin5 : ¬ ((0 : Int32) < 0 ∨ cl4.slots.size ≤ ((0 : Int32)).toNatClampNeg) := inb_of Sz4 (own_idx _ (2 : Int32) _ hle (by decide) (by decide))
  have hat6 : cl4.slots[((0 : Int32)).toNatClampNeg]? = some (.int x0) := Has.at Hs4 hin5 rfl
  obtain ⟨re7, kk7, cl7, Ar7, qq7, Sz7, Nn7, Hs7, Gf7⟩ := id pf_X_ar
  have hin8 : ¬ ((0 : Int32) < 0 ∨ cl7.slots.size ≤ ((0 : Int32)).toNatClampNeg) := inb_of Sz7 (own_idx _ (2 : Int32) _ hle (by decide) (by decide))
  obtain ⟨T9, h9, X9, e9, W9, st9⟩ := stB X3 hx hZ e3 Ar7 (j := (0 : Int32)) hin8 (g := (mkF m 24 #[rv a9_0, iv (0 : Int32), iv (0 : Int32)] [(.int ((x0 ^^^ (-1 : Int32)).toInt8.toInt32)), (.int (0 : Int32)), (.ref ar)])) rfl rfl (hb hby d9_24)
  have K10 : Keep h0 h9 [ar] := (Keep.refl h0 [ar]).wr W9 (Or.inl (List.mem_of_getElem? (i := 0) rfl))
  have f11 : Px Z h9 ar .byte ln [(.int (nar .byte ((x0 ^^^ (-1 : Int32)).toInt8.toInt32))), (.int x1)] := ⟨_, _, Arv.set Ar7 qq7 Sz7 Nn7 Hs7 Gf7 (by first | rfl | exact fits_nar_byte _) W9 0 rfl (by simp only [List.length_append, List.length_cons, List.length_nil]; omega)⟩
  have N12 := Fr.snoc X9 N0 pf_G_ar
  have f13 := (pf_F_a9_0_size.other W9 (Or.inl pf_NE_a9_0_ar))
  obtain ⟨T14, X14, e14, st14⟩ := getF X9 hx hZ hown (host := "") (Or.inl wo27) Via.refl e9 f13 (g := (mkF m 4 #[rv a9_0, iv (0 : Int32), iv (1 : Int32)] [(.ref a9_0), (.int (1 : Int32))])) rfl rfl (hb hby d9_4)
  have f15 := (pf_F_a9_0_bytes.other W9 (Or.inl pf_NE_a9_0_ar))
  obtain ⟨T16, X16, e16, st16⟩ := getF X14 hx hZ hown (host := "") (Or.inl wo16) Via.refl e14 f15 (g := (mkF m 11 #[rv a9_0, iv (0 : Int32), iv (1 : Int32)] [(.ref a9_0)])) rfl rfl (hb hby d9_11)
  obtain ⟨T17, X17, e17, st17⟩ := getF X16 hx hZ hown (host := "") (Or.inl wo16) Via.refl e16 f15 (g := (mkF m 16 #[rv a9_0, iv (0 : Int32), iv (1 : Int32)] [(.ref a9_0), (.int (1 : Int32)), (.ref ar)])) rfl rfl (hb hby d9_16)
  obtain ⟨re18, kk18, cl18, Ar18, qq18, Sz18, Nn18, Hs18, Gf18⟩ := id f11
  have hin19 : ¬ ((1 : Int32) < 0 ∨ cl18.slots.size ≤ ((1 : Int32)).toNatClampNeg) := inb_of Sz18 (own_idx _ (2 : Int32) _ hle (by decide) (by decide))
  have hat20 : cl18.slots[((1 : Int32)).toNatClampNeg]? = some (.int x1) := Has.at Hs18 hin19 rfl
  obtain ⟨re21, kk21, cl21, Ar21, qq21, Sz21, Nn21, Hs21, Gf21⟩ := id f11
  have hin22 : ¬ ((1 : Int32) < 0 ∨ cl21.slots.size ≤ ((1 : Int32)).toNatClampNeg) := inb_of Sz21 (own_idx _ (2 : Int32) _ hle (by decide) (by decide))
  obtain ⟨T23, h23, X23, e23, W23, st23⟩ := stB X17 hx hZ e17 Ar21 (j := (1 : Int32)) hin22 (g := (mkF m 24 #[rv a9_0, iv (0 : Int32), iv (1 : Int32)] [(.int ((x1 ^^^ (-1 : Int32)).toInt8.toInt32)), (.int (1 : Int32)), (.ref ar)])) rfl rfl (hb hby d9_24)
  have K24 : Keep h0 h23 [ar] := (K10).wr W23 (Or.inl (List.mem_of_getElem? (i := 0) rfl))
  have f25 : Px Z h23 ar .byte ln [(.int (nar .byte ((x0 ^^^ (-1 : Int32)).toInt8.toInt32))), (.int (nar .byte ((x1 ^^^ (-1 : Int32)).toInt8.toInt32)))] := ⟨_, _, Arv.set Ar21 qq21 Sz21 Nn21 Hs21 Gf21 (by first | rfl | exact fits_nar_byte _) W23 1 rfl (by simp only [List.length_append, List.length_cons, List.length_nil]; omega)⟩
  have N26 := Fr.snoc X23 N12 pf_G_ar
  have f27 := (f13.other W23 (Or.inl pf_NE_a9_0_ar))
  obtain ⟨T28, X28, e28, st28⟩ := getF X23 hx hZ hown (host := "") (Or.inl wo27) Via.refl e23 f27 (g := (mkF m 4 #[rv a9_0, iv (0 : Int32), iv (2 : Int32)] [(.ref a9_0), (.int (2 : Int32))])) rfl rfl (hb hby d9_4)
  obtain ⟨fs, hr, hrun, hended, hW, hsame⟩ := X28.leave (v := none) (fun _ => rfl)
  refine ⟨_, _, pre0 _ ?_, hrun, hended, _, _, rfl, ?_, ⟨_, rfl⟩, hW, hsame.mono (by decide) (by decide)⟩
  · show Steps p.tables e below (s₁.setTop (mkF m 0 #[rv a9_0, iv (0 : Int32), .unset] [])) _
    refine XS.iloadN X0.here hx rfl (hb hby d9_0) rfl ?_
    show Steps p.tables e below (s₁.setTop (mkF m 1 #[rv a9_0, iv (0 : Int32), .unset] [(.int (0 : Int32))])) _
    refine XS.istoreN X0.here hx rfl (hb hby d9_1) rfl (l' := #[rv a9_0, iv (0 : Int32), iv (0 : Int32)]) rfl ?_
    refine XS.iloadN X0.here hx rfl (hb hby d9_2) rfl ?_
    refine XS.aloadN X0.here hx rfl (hb hby d9_3) rfl rfl ?_
    show Steps p.tables e below (s₁.setTop (mkF m 4 #[rv a9_0, iv (0 : Int32), iv (0 : Int32)] [(.ref a9_0), (.int (0 : Int32))])) _
    refine st1 _ ?_
    show Steps p.tables e below (T1.setTop (mkF m 7 #[rv a9_0, iv (0 : Int32), iv (0 : Int32)] [(.int (2 : Int32)), (.int (0 : Int32))])) _
    refine XS.icmpNo X1.here hx rfl (hb hby d9_7) rfl (tlt (by decide : (0 : Int32) < (2 : Int32))).2.1 ?_
    refine XS.aloadN X1.here hx rfl (hb hby d9_10) rfl rfl ?_
    show Steps p.tables e below (T1.setTop (mkF m 11 #[rv a9_0, iv (0 : Int32), iv (0 : Int32)] [(.ref a9_0)])) _
    refine st2 _ ?_
    show Steps p.tables e below (T2.setTop (mkF m 14 #[rv a9_0, iv (0 : Int32), iv (0 : Int32)] [(.ref ar)])) _
    refine XS.iloadN X2.here hx rfl (hb hby d9_14) rfl ?_
    show Steps p.tables e below (T2.setTop (mkF m 15 #[rv a9_0, iv (0 : Int32), iv (0 : Int32)] [(.int (0 : Int32)), (.ref ar)])) _
    refine XS.aloadN X2.here hx rfl (hb hby d9_15) rfl rfl ?_
    show Steps p.tables e below (T2.setTop (mkF m 16 #[rv a9_0, iv (0 : Int32), iv (0 : Int32)] [(.ref a9_0), (.int (0 : Int32)), (.ref ar)])) _
    refine st3 _ ?_
    show Steps p.tables e below (T3.setTop (mkF m 19 #[rv a9_0, iv (0 : Int32), iv (0 : Int32)] [(.ref ar), (.int (0 : Int32)), (.ref ar)])) _
    refine XS.iloadN X3.here hx rfl (hb hby d9_19) rfl ?_
    show Steps p.tables e below (T3.setTop (mkF m 20 #[rv a9_0, iv (0 : Int32), iv (0 : Int32)] [(.int (0 : Int32)), (.ref ar), (.int (0 : Int32)), (.ref ar)])) _
    refine X3.baloadBytes hx (j := (0 : Int32)) (v := (.int x0)) (by rw [e3]; exact Ar4.1) (State.isArrayOf_alike hZ.alike Ar4.2.1) Ar4.2.2 hin5 hat6 (g := (mkF m 20 #[rv a9_0, iv (0 : Int32), iv (0 : Int32)] [(.int (0 : Int32)), (.ref ar), (.int (0 : Int32)), (.ref ar)])) rfl rfl (hb hby d9_20) _ ?_
    show Steps p.tables e below (T3.setTop (mkF m 21 #[rv a9_0, iv (0 : Int32), iv (0 : Int32)] [(.int x0), (.int (0 : Int32)), (.ref ar)])) _
    refine XS.iconst X3.here hx rfl (hb hby d9_21) ?_
    refine XS.ixor X3.here hx rfl (hb hby d9_22) rfl ?_
    refine XS.i2b X3.here hx rfl (hb hby d9_23) rfl ?_
    show Steps p.tables e below (T3.setTop (mkF m 24 #[rv a9_0, iv (0 : Int32), iv (0 : Int32)] [(.int ((x0 ^^^ (-1 : Int32)).toInt8.toInt32)), (.int (0 : Int32)), (.ref ar)])) _
    refine st9 _ ?_
    show Steps p.tables e below (T9.setTop (mkF m 25 #[rv a9_0, iv (0 : Int32), iv (0 : Int32)] [])) _
    refine XS.iinc X9.here hx rfl (hb hby d9_25) rfl (l' := #[rv a9_0, iv (0 : Int32), iv (1 : Int32)]) rfl ?_
    refine XS.goto X9.here hx rfl (pc0 := 28) (pc' := 2) rfl (hb hby d9_28) (by decide) (by decide) ?_
    refine XS.iloadN X9.here hx rfl (hb hby d9_2) rfl ?_
    refine XS.aloadN X9.here hx rfl (hb hby d9_3) rfl rfl ?_
    show Steps p.tables e below (T9.setTop (mkF m 4 #[rv a9_0, iv (0 : Int32), iv (1 : Int32)] [(.ref a9_0), (.int (1 : Int32))])) _
    refine st14 _ ?_
    show Steps p.tables e below (T14.setTop (mkF m 7 #[rv a9_0, iv (0 : Int32), iv (1 : Int32)] [(.int (2 : Int32)), (.int (1 : Int32))])) _
    refine XS.icmpNo X14.here hx rfl (hb hby d9_7) rfl (tlt (by decide : (1 : Int32) < (2 : Int32))).2.1 ?_
    refine XS.aloadN X14.here hx rfl (hb hby d9_10) rfl rfl ?_
    show Steps p.tables e below (T14.setTop (mkF m 11 #[rv a9_0, iv (0 : Int32), iv (1 : Int32)] [(.ref a9_0)])) _
    refine st16 _ ?_
    show Steps p.tables e below (T16.setTop (mkF m 14 #[rv a9_0, iv (0 : Int32), iv (1 : Int32)] [(.ref ar)])) _
    refine XS.iloadN X16.here hx rfl (hb hby d9_14) rfl ?_
    refine XS.aloadN X16.here hx rfl (hb hby d9_15) rfl rfl ?_
    show Steps p.tables e below (T16.setTop (mkF m 16 #[rv a9_0, iv (0 : Int32), iv (1 : Int32)] [(.ref a9_0), (.int (1 : Int32)), (.ref ar)])) _
    refine st17 _ ?_
    show Steps p.tables e below (T17.setTop (mkF m 19 #[rv a9_0, iv (0 : Int32), iv (1 : Int32)] [(.ref ar), (.int (1 : Int32)), (.ref ar)])) _
    refine XS.iloadN X17.here hx rfl (hb hby d9_19) rfl ?_
    show Steps p.tables e below (T17.setTop (mkF m 20 #[rv a9_0, iv (0 : Int32), iv (1 : Int32)] [(.int (1 : Int32)), (.ref ar), (.int (1 : Int32)), (.ref ar)])) _
    refine X17.baloadBytes hx (j := (1 : Int32)) (v := (.int x1)) (by rw [e17]; exact Ar18.1) (State.isArrayOf_alike hZ.alike Ar18.2.1) Ar18.2.2 hin19 hat20 (g := (mkF m 20 #[rv a9_0, iv (0 : Int32), iv (1 : Int32)] [(.int (1 : Int32)), (.ref ar), (.int (1 : Int32)), (.ref ar)])) rfl rfl (hb hby d9_20) _ ?_
    show Steps p.tables e below (T17.setTop (mkF m 21 #[rv a9_0, iv (0 : Int32), iv (1 : Int32)] [(.int x1), (.int (1 : Int32)), (.ref ar)])) _
    refine XS.iconst X17.here hx rfl (hb hby d9_21) ?_
    refine XS.ixor X17.here hx rfl (hb hby d9_22) rfl ?_
    refine XS.i2b X17.here hx rfl (hb hby d9_23) rfl ?_
    show Steps p.tables e below (T17.setTop (mkF m 24 #[rv a9_0, iv (0 : Int32), iv (1 : Int32)] [(.int ((x1 ^^^ (-1 : Int32)).toInt8.toInt32)), (.int (1 : Int32)), (.ref ar)])) _
    refine st23 _ ?_
    show Steps p.tables e below (T23.setTop (mkF m 25 #[rv a9_0, iv (0 : Int32), iv (1 : Int32)] [])) _
    refine XS.iinc X23.here hx rfl (hb hby d9_25) rfl (l' := #[rv a9_0, iv (0 : Int32), iv (2 : Int32)]) rfl ?_
    refine XS.goto X23.here hx rfl (pc0 := 28) (pc' := 2) rfl (hb hby d9_28) (by decide) (by decide) ?_
    refine XS.iloadN X23.here hx rfl (hb hby d9_2) rfl ?_
    show Steps p.tables e below (T23.setTop (mkF m 3 #[rv a9_0, iv (0 : Int32), iv (2 : Int32)] [(.int (2 : Int32))])) _
    refine XS.aloadN X23.here hx rfl (hb hby d9_3) rfl rfl ?_
    show Steps p.tables e below (T23.setTop (mkF m 4 #[rv a9_0, iv (0 : Int32), iv (2 : Int32)] [(.ref a9_0), (.int (2 : Int32))])) _
    refine st28 _ ?_
    show Steps p.tables e below (T28.setTop (mkF m 7 #[rv a9_0, iv (0 : Int32), iv (2 : Int32)] [(.int (2 : Int32)), (.int (2 : Int32))])) _
    refine XS.icmpYes X28.here hx rfl (pc0 := 7) (pc' := 31) rfl (hb hby d9_7) rfl (flt (by decide : ¬ ((2 : Int32) < (2 : Int32)))).2.1 (by decide) (by decide) ?_
    show Steps p.tables e below (T28.setTop (mkF m 31 #[rv a9_0, iv (0 : Int32), iv (2 : Int32)] [])) _
    exact X28.returnOut hx Bd.returns (hb hby d9_31) hr
  · show Q_rm_in2_0 Z _ _ _ _ _ h0 n0 _ T28.heap _
    rw [e28]
    exact ⟨rfl, N26, (K24), f25⟩
theorem ef_rm_in2_1 (m : MethodId) (x0 : Addr) (x1 : Int32) : entryFrame m #[(.ref x0), (.int x1)] 3 = mkF m 0 #[rv x0, iv x1, .unset] [] := by first | (simp [entryFrame, mkF, argsToLocals, Value.category]; done) | rfl
def Q_rm_in2_1 (Z : State) (a9_0 : Addr) (ar : Addr) (ln : Int32) (x0 : Int32) (x1 : Int32) (h0 : Heap) (n0 : Nat) (v : Option Value) (h : Heap) (L : List Loc) : Prop := v = none ∧ Fr n0 L ∧ Keep h0 h [ar] ∧ (Px Z h ar .byte ln [(.int x0), (.int (nar .byte ((x1 ^^^ (-1 : Int32)).toInt8.toInt32)))])
set_option maxRecDepth 65536 in
set_option maxHeartbeats 40000000 in
theorem rm_in2_1 (l : Launch) (Z : State) (a0 : Array Value) (hw : ∀ d ∈ tables_1, d.before a0 Z = true) (ws : List Jvm.Cond) (a9_0 : Addr) (ar : Addr) (ln : Int32) (x0 : Int32) (x1 : Int32) (h0 : Heap) (n0 : Nat) (Z0 : n0 ≤ h0.size) (pf_G_ar : n0 ≤ ar) (pf_NE_a9_0_ar : a9_0 ≠ ar) (pf_F_a9_0_bytes : Fld Z h0 a9_0 "com/example/dido/dido/keys/KeyWriter" "bytes" "[B" (.ref ar)) (pf_F_a9_0_size : Fld Z h0 a9_0 "com/example/dido/dido/keys/KeyWriter" "size" "I" (.int (2 : Int32))) (pf_X_ar : Px Z h0 ar .byte ln [(.int x0), (.int x1)]) (hle : (2 : Int32).toInt ≤ ln.toInt) :
    MetFree l (⟨"com/example/dido/dido/keys/KeyWriter", "invert", "(I)V"⟩ : MethodName) (head1 (Jvm.Cond.code (⟨"com/example/dido/dido/keys/KeyWriter", "invert", "(I)V"⟩ : MethodName) prog_15_method_11_code 3 none :: ws) ({ frames := 0, cells := 0, slots := 0, locals := 0 } : Room)) (fun a U => a = #[(.ref a9_0), (.int (1 : Int32))] ∧ Z.Warmed39 U.vm ∧ U.heap = h0) (fun _ _ _ _ _ => True) (fun _ U o U' => ∃ v L, o = .returned v ∧ Q_rm_in2_1 Z a9_0 ar ln x0 x1 h0 n0 v U'.heap L ∧ FrameEnd U o U' L ({ frames := 0, cells := 0, slots := 0, locals := 0 } : Room).cells ({ frames := 0, cells := 0, slots := 0, locals := 0 } : Room).slots) := by
  refine MetFree.of_bodySF (plainFor_of_name pn_com_example_dido_dido_keys_KeyWriter) hisR ?_
  intro p e s m args below meth c s₁ Bd hml0 hP hK
  obtain ⟨rfl, hZ, hh⟩ := hP
  have hx := Bd.exec
  have hby := Bd.bytes
  have hml : c.maxLocals = 3 := hml0
  have hown : s.vm.findClass "com/example/dido/dido/keys/KeyWriter" = some m.cls := findClass_of_methodNamed Bd.named
  have hnm := (name_of_methodNamed Bd.named Bd.method).1
  have X0 : Stand p l e ({ frames := 0, cells := 0, slots := 0, locals := 0 } : Room) s m #[(.ref a9_0), (.int (1 : Int32))] below meth c s₁ [] 0 0 := Stand.of_body Bd
  have e0 : s₁.heap = h0 := by rw [← hh, Bd.state]; rfl
  have N0 := Fr.nil n0
  have pre0 : ∀ t, Steps p.tables e below (s₁.setTop (mkF m 0 #[rv a9_0, iv (1 : Int32), .unset] [])) t → Steps p.tables e below (s₁.setTop (entryFrame m #[(.ref a9_0), (.int (1 : Int32))] 3)) t := fun t k => castTop (ef_rm_in2_1 m a9_0 (1 : Int32)) k
  have wo16 := hw _ (List.mem_of_getElem? (i := 16) rfl)
  have wo27 := hw _ (List.mem_of_getElem? (i := 27) rfl)
  obtain ⟨T1, X1, e1, st1⟩ := getF X0 hx hZ hown (host := "") (Or.inl wo27) Via.refl e0 pf_F_a9_0_size (g := (mkF m 4 #[rv a9_0, iv (1 : Int32), iv (1 : Int32)] [(.ref a9_0), (.int (1 : Int32))])) rfl rfl (hb hby d9_4)
  obtain ⟨T2, X2, e2, st2⟩ := getF X1 hx hZ hown (host := "") (Or.inl wo16) Via.refl e1 pf_F_a9_0_bytes (g := (mkF m 11 #[rv a9_0, iv (1 : Int32), iv (1 : Int32)] [(.ref a9_0)])) rfl rfl (hb hby d9_11)
  obtain ⟨T3, X3, e3, st3⟩ := getF X2 hx hZ hown (host := "") (Or.inl wo16) Via.refl e2 pf_F_a9_0_bytes (g := (mkF m 16 #[rv a9_0, iv (1 : Int32), iv (1 : Int32)] [(.ref a9_0), (.int (1 : Int32)), (.ref ar)])) rfl rfl (hb hby d9_16)
  obtain ⟨re4, kk4, cl4, Ar4, qq4, Sz4, Nn4, Hs4, Gf4⟩ := id pf_X_ar
  have hin5 : ¬ ((1 : Int32) < 0 ∨ cl4.slots.size ≤ ((1 : Int32)).toNatClampNeg) := inb_of Sz4 (own_idx _ (2 : Int32) _ hle (by decide) (by decide))
  have hat6 : cl4.slots[((1 : Int32)).toNatClampNeg]? = some (.int x1) := Has.at Hs4 hin5 rfl
  obtain ⟨re7, kk7, cl7, Ar7, qq7, Sz7, Nn7, Hs7, Gf7⟩ := id pf_X_ar
  have hin8 : ¬ ((1 : Int32) < 0 ∨ cl7.slots.size ≤ ((1 : Int32)).toNatClampNeg) := inb_of Sz7 (own_idx _ (2 : Int32) _ hle (by decide) (by decide))
  obtain ⟨T9, h9, X9, e9, W9, st9⟩ := stB X3 hx hZ e3 Ar7 (j := (1 : Int32)) hin8 (g := (mkF m 24 #[rv a9_0, iv (1 : Int32), iv (1 : Int32)] [(.int ((x1 ^^^ (-1 : Int32)).toInt8.toInt32)), (.int (1 : Int32)), (.ref ar)])) rfl rfl (hb hby d9_24)
  have K10 : Keep h0 h9 [ar] := (Keep.refl h0 [ar]).wr W9 (Or.inl (List.mem_of_getElem? (i := 0) rfl))
  have f11 : Px Z h9 ar .byte ln [(.int x0), (.int (nar .byte ((x1 ^^^ (-1 : Int32)).toInt8.toInt32)))] := ⟨_, _, Arv.set Ar7 qq7 Sz7 Nn7 Hs7 Gf7 (by first | rfl | exact fits_nar_byte _) W9 1 rfl (by simp only [List.length_append, List.length_cons, List.length_nil]; omega)⟩
  have N12 := Fr.snoc X9 N0 pf_G_ar
  have f13 := (pf_F_a9_0_size.other W9 (Or.inl pf_NE_a9_0_ar))
  obtain ⟨T14, X14, e14, st14⟩ := getF X9 hx hZ hown (host := "") (Or.inl wo27) Via.refl e9 f13 (g := (mkF m 4 #[rv a9_0, iv (1 : Int32), iv (2 : Int32)] [(.ref a9_0), (.int (2 : Int32))])) rfl rfl (hb hby d9_4)
  obtain ⟨fs, hr, hrun, hended, hW, hsame⟩ := X14.leave (v := none) (fun _ => rfl)
  refine ⟨_, _, pre0 _ ?_, hrun, hended, _, _, rfl, ?_, ⟨_, rfl⟩, hW, hsame.mono (by decide) (by decide)⟩
  · show Steps p.tables e below (s₁.setTop (mkF m 0 #[rv a9_0, iv (1 : Int32), .unset] [])) _
    refine XS.iloadN X0.here hx rfl (hb hby d9_0) rfl ?_
    show Steps p.tables e below (s₁.setTop (mkF m 1 #[rv a9_0, iv (1 : Int32), .unset] [(.int (1 : Int32))])) _
    refine XS.istoreN X0.here hx rfl (hb hby d9_1) rfl (l' := #[rv a9_0, iv (1 : Int32), iv (1 : Int32)]) rfl ?_
    refine XS.iloadN X0.here hx rfl (hb hby d9_2) rfl ?_
    refine XS.aloadN X0.here hx rfl (hb hby d9_3) rfl rfl ?_
    show Steps p.tables e below (s₁.setTop (mkF m 4 #[rv a9_0, iv (1 : Int32), iv (1 : Int32)] [(.ref a9_0), (.int (1 : Int32))])) _
    refine st1 _ ?_
    show Steps p.tables e below (T1.setTop (mkF m 7 #[rv a9_0, iv (1 : Int32), iv (1 : Int32)] [(.int (2 : Int32)), (.int (1 : Int32))])) _
    refine XS.icmpNo X1.here hx rfl (hb hby d9_7) rfl (tlt (by decide : (1 : Int32) < (2 : Int32))).2.1 ?_
    refine XS.aloadN X1.here hx rfl (hb hby d9_10) rfl rfl ?_
    show Steps p.tables e below (T1.setTop (mkF m 11 #[rv a9_0, iv (1 : Int32), iv (1 : Int32)] [(.ref a9_0)])) _
    refine st2 _ ?_
    show Steps p.tables e below (T2.setTop (mkF m 14 #[rv a9_0, iv (1 : Int32), iv (1 : Int32)] [(.ref ar)])) _
    refine XS.iloadN X2.here hx rfl (hb hby d9_14) rfl ?_
    show Steps p.tables e below (T2.setTop (mkF m 15 #[rv a9_0, iv (1 : Int32), iv (1 : Int32)] [(.int (1 : Int32)), (.ref ar)])) _
    refine XS.aloadN X2.here hx rfl (hb hby d9_15) rfl rfl ?_
    show Steps p.tables e below (T2.setTop (mkF m 16 #[rv a9_0, iv (1 : Int32), iv (1 : Int32)] [(.ref a9_0), (.int (1 : Int32)), (.ref ar)])) _
    refine st3 _ ?_
    show Steps p.tables e below (T3.setTop (mkF m 19 #[rv a9_0, iv (1 : Int32), iv (1 : Int32)] [(.ref ar), (.int (1 : Int32)), (.ref ar)])) _
    refine XS.iloadN X3.here hx rfl (hb hby d9_19) rfl ?_
    show Steps p.tables e below (T3.setTop (mkF m 20 #[rv a9_0, iv (1 : Int32), iv (1 : Int32)] [(.int (1 : Int32)), (.ref ar), (.int (1 : Int32)), (.ref ar)])) _
    refine X3.baloadBytes hx (j := (1 : Int32)) (v := (.int x1)) (by rw [e3]; exact Ar4.1) (State.isArrayOf_alike hZ.alike Ar4.2.1) Ar4.2.2 hin5 hat6 (g := (mkF m 20 #[rv a9_0, iv (1 : Int32), iv (1 : Int32)] [(.int (1 : Int32)), (.ref ar), (.int (1 : Int32)), (.ref ar)])) rfl rfl (hb hby d9_20) _ ?_
    show Steps p.tables e below (T3.setTop (mkF m 21 #[rv a9_0, iv (1 : Int32), iv (1 : Int32)] [(.int x1), (.int (1 : Int32)), (.ref ar)])) _
    refine XS.iconst X3.here hx rfl (hb hby d9_21) ?_
    refine XS.ixor X3.here hx rfl (hb hby d9_22) rfl ?_
    refine XS.i2b X3.here hx rfl (hb hby d9_23) rfl ?_
    show Steps p.tables e below (T3.setTop (mkF m 24 #[rv a9_0, iv (1 : Int32), iv (1 : Int32)] [(.int ((x1 ^^^ (-1 : Int32)).toInt8.toInt32)), (.int (1 : Int32)), (.ref ar)])) _
    refine st9 _ ?_
    show Steps p.tables e below (T9.setTop (mkF m 25 #[rv a9_0, iv (1 : Int32), iv (1 : Int32)] [])) _
    refine XS.iinc X9.here hx rfl (hb hby d9_25) rfl (l' := #[rv a9_0, iv (1 : Int32), iv (2 : Int32)]) rfl ?_
    refine XS.goto X9.here hx rfl (pc0 := 28) (pc' := 2) rfl (hb hby d9_28) (by decide) (by decide) ?_
    refine XS.iloadN X9.here hx rfl (hb hby d9_2) rfl ?_
    refine XS.aloadN X9.here hx rfl (hb hby d9_3) rfl rfl ?_
    show Steps p.tables e below (T9.setTop (mkF m 4 #[rv a9_0, iv (1 : Int32), iv (2 : Int32)] [(.ref a9_0), (.int (2 : Int32))])) _
    refine st14 _ ?_
    show Steps p.tables e below (T14.setTop (mkF m 7 #[rv a9_0, iv (1 : Int32), iv (2 : Int32)] [(.int (2 : Int32)), (.int (2 : Int32))])) _
    refine XS.icmpYes X14.here hx rfl (pc0 := 7) (pc' := 31) rfl (hb hby d9_7) rfl (flt (by decide : ¬ ((2 : Int32) < (2 : Int32)))).2.1 (by decide) (by decide) ?_
    show Steps p.tables e below (T14.setTop (mkF m 31 #[rv a9_0, iv (1 : Int32), iv (2 : Int32)] [])) _
    exact X14.returnOut hx Bd.returns (hb hby d9_31) hr
  · show Q_rm_in2_1 Z _ _ _ _ _ h0 n0 _ T14.heap _
    rw [e14]
    exact ⟨rfl, N12, (K10), f11⟩
theorem ef_rm_in2_2 (m : MethodId) (x0 : Addr) (x1 : Int32) : entryFrame m #[(.ref x0), (.int x1)] 3 = mkF m 0 #[rv x0, iv x1, .unset] [] := by first | (simp [entryFrame, mkF, argsToLocals, Value.category]; done) | rfl
def Q_rm_in2_2 (Z : State) (a9_0 : Addr) (ar : Addr) (ln : Int32) (x0 : Int32) (x1 : Int32) (h0 : Heap) (n0 : Nat) (v : Option Value) (h : Heap) (L : List Loc) : Prop := v = none ∧ Fr n0 L ∧ Keep h0 h [ar] ∧ (Px Z h ar .byte ln [(.int x0), (.int x1)])
set_option maxRecDepth 65536 in
set_option maxHeartbeats 40000000 in
theorem rm_in2_2 (l : Launch) (Z : State) (a0 : Array Value) (hw : ∀ d ∈ tables_1, d.before a0 Z = true) (ws : List Jvm.Cond) (a9_0 : Addr) (ar : Addr) (ln : Int32) (x0 : Int32) (x1 : Int32) (h0 : Heap) (n0 : Nat) (Z0 : n0 ≤ h0.size) (pf_G_ar : n0 ≤ ar) (pf_NE_a9_0_ar : a9_0 ≠ ar) (pf_F_a9_0_bytes : Fld Z h0 a9_0 "com/example/dido/dido/keys/KeyWriter" "bytes" "[B" (.ref ar)) (pf_F_a9_0_size : Fld Z h0 a9_0 "com/example/dido/dido/keys/KeyWriter" "size" "I" (.int (2 : Int32))) (pf_X_ar : Px Z h0 ar .byte ln [(.int x0), (.int x1)]) (hle : (2 : Int32).toInt ≤ ln.toInt) :
    MetFree l (⟨"com/example/dido/dido/keys/KeyWriter", "invert", "(I)V"⟩ : MethodName) (head1 (Jvm.Cond.code (⟨"com/example/dido/dido/keys/KeyWriter", "invert", "(I)V"⟩ : MethodName) prog_15_method_11_code 3 none :: ws) ({ frames := 0, cells := 0, slots := 0, locals := 0 } : Room)) (fun a U => a = #[(.ref a9_0), (.int (2 : Int32))] ∧ Z.Warmed39 U.vm ∧ U.heap = h0) (fun _ _ _ _ _ => True) (fun _ U o U' => ∃ v L, o = .returned v ∧ Q_rm_in2_2 Z a9_0 ar ln x0 x1 h0 n0 v U'.heap L ∧ FrameEnd U o U' L ({ frames := 0, cells := 0, slots := 0, locals := 0 } : Room).cells ({ frames := 0, cells := 0, slots := 0, locals := 0 } : Room).slots) := by
  refine MetFree.of_bodySF (plainFor_of_name pn_com_example_dido_dido_keys_KeyWriter) hisR ?_
  intro p e s m args below meth c s₁ Bd hml0 hP hK
  obtain ⟨rfl, hZ, hh⟩ := hP
  have hx := Bd.exec
  have hby := Bd.bytes
  have hml : c.maxLocals = 3 := hml0
  have hown : s.vm.findClass "com/example/dido/dido/keys/KeyWriter" = some m.cls := findClass_of_methodNamed Bd.named
  have hnm := (name_of_methodNamed Bd.named Bd.method).1
  have X0 : Stand p l e ({ frames := 0, cells := 0, slots := 0, locals := 0 } : Room) s m #[(.ref a9_0), (.int (2 : Int32))] below meth c s₁ [] 0 0 := Stand.of_body Bd
  have e0 : s₁.heap = h0 := by rw [← hh, Bd.state]; rfl
  have N0 := Fr.nil n0
  have pre0 : ∀ t, Steps p.tables e below (s₁.setTop (mkF m 0 #[rv a9_0, iv (2 : Int32), .unset] [])) t → Steps p.tables e below (s₁.setTop (entryFrame m #[(.ref a9_0), (.int (2 : Int32))] 3)) t := fun t k => castTop (ef_rm_in2_2 m a9_0 (2 : Int32)) k
  have wo27 := hw _ (List.mem_of_getElem? (i := 27) rfl)
  obtain ⟨T1, X1, e1, st1⟩ := getF X0 hx hZ hown (host := "") (Or.inl wo27) Via.refl e0 pf_F_a9_0_size (g := (mkF m 4 #[rv a9_0, iv (2 : Int32), iv (2 : Int32)] [(.ref a9_0), (.int (2 : Int32))])) rfl rfl (hb hby d9_4)
  obtain ⟨fs, hr, hrun, hended, hW, hsame⟩ := X1.leave (v := none) (fun _ => rfl)
  refine ⟨_, _, pre0 _ ?_, hrun, hended, _, _, rfl, ?_, ⟨_, rfl⟩, hW, hsame.mono (by decide) (by decide)⟩
  · show Steps p.tables e below (s₁.setTop (mkF m 0 #[rv a9_0, iv (2 : Int32), .unset] [])) _
    refine XS.iloadN X0.here hx rfl (hb hby d9_0) rfl ?_
    show Steps p.tables e below (s₁.setTop (mkF m 1 #[rv a9_0, iv (2 : Int32), .unset] [(.int (2 : Int32))])) _
    refine XS.istoreN X0.here hx rfl (hb hby d9_1) rfl (l' := #[rv a9_0, iv (2 : Int32), iv (2 : Int32)]) rfl ?_
    refine XS.iloadN X0.here hx rfl (hb hby d9_2) rfl ?_
    refine XS.aloadN X0.here hx rfl (hb hby d9_3) rfl rfl ?_
    show Steps p.tables e below (s₁.setTop (mkF m 4 #[rv a9_0, iv (2 : Int32), iv (2 : Int32)] [(.ref a9_0), (.int (2 : Int32))])) _
    refine st1 _ ?_
    show Steps p.tables e below (T1.setTop (mkF m 7 #[rv a9_0, iv (2 : Int32), iv (2 : Int32)] [(.int (2 : Int32)), (.int (2 : Int32))])) _
    refine XS.icmpYes X1.here hx rfl (pc0 := 7) (pc' := 31) rfl (hb hby d9_7) rfl (flt (by decide : ¬ ((2 : Int32) < (2 : Int32)))).2.1 (by decide) (by decide) ?_
    show Steps p.tables e below (T1.setTop (mkF m 31 #[rv a9_0, iv (2 : Int32), iv (2 : Int32)] [])) _
    exact X1.returnOut hx Bd.returns (hb hby d9_31) hr
  · show Q_rm_in2_2 Z _ _ _ _ _ h0 n0 _ T1.heap _
    rw [e1]
    exact ⟨rfl, N0, (Keep.refl h0 [ar]), pf_X_ar⟩
theorem ef_rm_in3_0 (m : MethodId) (x0 : Addr) (x1 : Int32) : entryFrame m #[(.ref x0), (.int x1)] 3 = mkF m 0 #[rv x0, iv x1, .unset] [] := by first | (simp [entryFrame, mkF, argsToLocals, Value.category]; done) | rfl
def Q_rm_in3_0 (Z : State) (a9_0 : Addr) (ar : Addr) (ln : Int32) (x0 : Int32) (x1 : Int32) (x2 : Int32) (h0 : Heap) (n0 : Nat) (v : Option Value) (h : Heap) (L : List Loc) : Prop := v = none ∧ Fr n0 L ∧ Keep h0 h [ar] ∧ (Px Z h ar .byte ln [(.int (nar .byte ((x0 ^^^ (-1 : Int32)).toInt8.toInt32))), (.int (nar .byte ((x1 ^^^ (-1 : Int32)).toInt8.toInt32))), (.int (nar .byte ((x2 ^^^ (-1 : Int32)).toInt8.toInt32)))])
set_option maxRecDepth 65536 in
set_option maxHeartbeats 40000000 in
theorem rm_in3_0 (l : Launch) (Z : State) (a0 : Array Value) (hw : ∀ d ∈ tables_1, d.before a0 Z = true) (ws : List Jvm.Cond) (a9_0 : Addr) (ar : Addr) (ln : Int32) (x0 : Int32) (x1 : Int32) (x2 : Int32) (h0 : Heap) (n0 : Nat) (Z0 : n0 ≤ h0.size) (pf_G_ar : n0 ≤ ar) (pf_NE_a9_0_ar : a9_0 ≠ ar) (pf_F_a9_0_bytes : Fld Z h0 a9_0 "com/example/dido/dido/keys/KeyWriter" "bytes" "[B" (.ref ar)) (pf_F_a9_0_size : Fld Z h0 a9_0 "com/example/dido/dido/keys/KeyWriter" "size" "I" (.int (3 : Int32))) (pf_X_ar : Px Z h0 ar .byte ln [(.int x0), (.int x1), (.int x2)]) (hle : (3 : Int32).toInt ≤ ln.toInt) :
    MetFree l (⟨"com/example/dido/dido/keys/KeyWriter", "invert", "(I)V"⟩ : MethodName) (head1 (Jvm.Cond.code (⟨"com/example/dido/dido/keys/KeyWriter", "invert", "(I)V"⟩ : MethodName) prog_15_method_11_code 3 none :: ws) ({ frames := 0, cells := 0, slots := 0, locals := 0 } : Room)) (fun a U => a = #[(.ref a9_0), (.int (0 : Int32))] ∧ Z.Warmed39 U.vm ∧ U.heap = h0) (fun _ _ _ _ _ => True) (fun _ U o U' => ∃ v L, o = .returned v ∧ Q_rm_in3_0 Z a9_0 ar ln x0 x1 x2 h0 n0 v U'.heap L ∧ FrameEnd U o U' L ({ frames := 0, cells := 0, slots := 0, locals := 0 } : Room).cells ({ frames := 0, cells := 0, slots := 0, locals := 0 } : Room).slots) := by
  refine MetFree.of_bodySF (plainFor_of_name pn_com_example_dido_dido_keys_KeyWriter) hisR ?_
  intro p e s m args below meth c s₁ Bd hml0 hP hK
  obtain ⟨rfl, hZ, hh⟩ := hP
  have hx := Bd.exec
  have hby := Bd.bytes
  have hml : c.maxLocals = 3 := hml0
  have hown : s.vm.findClass "com/example/dido/dido/keys/KeyWriter" = some m.cls := findClass_of_methodNamed Bd.named
  have hnm := (name_of_methodNamed Bd.named Bd.method).1
  have X0 : Stand p l e ({ frames := 0, cells := 0, slots := 0, locals := 0 } : Room) s m #[(.ref a9_0), (.int (0 : Int32))] below meth c s₁ [] 0 0 := Stand.of_body Bd
  have e0 : s₁.heap = h0 := by rw [← hh, Bd.state]; rfl
  have N0 := Fr.nil n0
  have pre0 : ∀ t, Steps p.tables e below (s₁.setTop (mkF m 0 #[rv a9_0, iv (0 : Int32), .unset] [])) t → Steps p.tables e below (s₁.setTop (entryFrame m #[(.ref a9_0), (.int (0 : Int32))] 3)) t := fun t k => castTop (ef_rm_in3_0 m a9_0 (0 : Int32)) k
  have wo16 := hw _ (List.mem_of_getElem? (i := 16) rfl)
  have wo27 := hw _ (List.mem_of_getElem? (i := 27) rfl)
  obtain ⟨T1, X1, e1, st1⟩ := getF X0 hx hZ hown (host := "") (Or.inl wo27) Via.refl e0 pf_F_a9_0_size (g := (mkF m 4 #[rv a9_0, iv (0 : Int32), iv (0 : Int32)] [(.ref a9_0), (.int (0 : Int32))])) rfl rfl (hb hby d9_4)
  obtain ⟨T2, X2, e2, st2⟩ := getF X1 hx hZ hown (host := "") (Or.inl wo16) Via.refl e1 pf_F_a9_0_bytes (g := (mkF m 11 #[rv a9_0, iv (0 : Int32), iv (0 : Int32)] [(.ref a9_0)])) rfl rfl (hb hby d9_11)
  obtain ⟨T3, X3, e3, st3⟩ := getF X2 hx hZ hown (host := "") (Or.inl wo16) Via.refl e2 pf_F_a9_0_bytes (g := (mkF m 16 #[rv a9_0, iv (0 : Int32), iv (0 : Int32)] [(.ref a9_0), (.int (0 : Int32)), (.ref ar)])) rfl rfl (hb hby d9_16)
  obtain ⟨re4, kk4, cl4, Ar4, qq4, Sz4, Nn4, Hs4, Gf4⟩ := id pf_X_ar
  have hin5 : ¬ ((0 : Int32) < 0 ∨ cl4.slots.size ≤ ((0 : Int32)).toNatClampNeg) := inb_of Sz4 (own_idx _ (3 : Int32) _ hle (by decide) (by decide))
  have hat6 : cl4.slots[((0 : Int32)).toNatClampNeg]? = some (.int x0) := Has.at Hs4 hin5 rfl
  obtain ⟨re7, kk7, cl7, Ar7, qq7, Sz7, Nn7, Hs7, Gf7⟩ := id pf_X_ar
  have hin8 : ¬ ((0 : Int32) < 0 ∨ cl7.slots.size ≤ ((0 : Int32)).toNatClampNeg) := inb_of Sz7 (own_idx _ (3 : Int32) _ hle (by decide) (by decide))
  obtain ⟨T9, h9, X9, e9, W9, st9⟩ := stB X3 hx hZ e3 Ar7 (j := (0 : Int32)) hin8 (g := (mkF m 24 #[rv a9_0, iv (0 : Int32), iv (0 : Int32)] [(.int ((x0 ^^^ (-1 : Int32)).toInt8.toInt32)), (.int (0 : Int32)), (.ref ar)])) rfl rfl (hb hby d9_24)
  have K10 : Keep h0 h9 [ar] := (Keep.refl h0 [ar]).wr W9 (Or.inl (List.mem_of_getElem? (i := 0) rfl))
  have f11 : Px Z h9 ar .byte ln [(.int (nar .byte ((x0 ^^^ (-1 : Int32)).toInt8.toInt32))), (.int x1), (.int x2)] := ⟨_, _, Arv.set Ar7 qq7 Sz7 Nn7 Hs7 Gf7 (by first | rfl | exact fits_nar_byte _) W9 0 rfl (by simp only [List.length_append, List.length_cons, List.length_nil]; omega)⟩
  have N12 := Fr.snoc X9 N0 pf_G_ar
  have f13 := (pf_F_a9_0_size.other W9 (Or.inl pf_NE_a9_0_ar))
  obtain ⟨T14, X14, e14, st14⟩ := getF X9 hx hZ hown (host := "") (Or.inl wo27) Via.refl e9 f13 (g := (mkF m 4 #[rv a9_0, iv (0 : Int32), iv (1 : Int32)] [(.ref a9_0), (.int (1 : Int32))])) rfl rfl (hb hby d9_4)
  have f15 := (pf_F_a9_0_bytes.other W9 (Or.inl pf_NE_a9_0_ar))
  obtain ⟨T16, X16, e16, st16⟩ := getF X14 hx hZ hown (host := "") (Or.inl wo16) Via.refl e14 f15 (g := (mkF m 11 #[rv a9_0, iv (0 : Int32), iv (1 : Int32)] [(.ref a9_0)])) rfl rfl (hb hby d9_11)
  obtain ⟨T17, X17, e17, st17⟩ := getF X16 hx hZ hown (host := "") (Or.inl wo16) Via.refl e16 f15 (g := (mkF m 16 #[rv a9_0, iv (0 : Int32), iv (1 : Int32)] [(.ref a9_0), (.int (1 : Int32)), (.ref ar)])) rfl rfl (hb hby d9_16)
  obtain ⟨re18, kk18, cl18, Ar18, qq18, Sz18, Nn18, Hs18, Gf18⟩ := id f11
  have hin19 : ¬ ((1 : Int32) < 0 ∨ cl18.slots.size ≤ ((1 : Int32)).toNatClampNeg) := inb_of Sz18 (own_idx _ (3 : Int32) _ hle (by decide) (by decide))
  have hat20 : cl18.slots[((1 : Int32)).toNatClampNeg]? = some (.int x1) := Has.at Hs18 hin19 rfl
  obtain ⟨re21, kk21, cl21, Ar21, qq21, Sz21, Nn21, Hs21, Gf21⟩ := id f11
  have hin22 : ¬ ((1 : Int32) < 0 ∨ cl21.slots.size ≤ ((1 : Int32)).toNatClampNeg) := inb_of Sz21 (own_idx _ (3 : Int32) _ hle (by decide) (by decide))
  obtain ⟨T23, h23, X23, e23, W23, st23⟩ := stB X17 hx hZ e17 Ar21 (j := (1 : Int32)) hin22 (g := (mkF m 24 #[rv a9_0, iv (0 : Int32), iv (1 : Int32)] [(.int ((x1 ^^^ (-1 : Int32)).toInt8.toInt32)), (.int (1 : Int32)), (.ref ar)])) rfl rfl (hb hby d9_24)
  have K24 : Keep h0 h23 [ar] := (K10).wr W23 (Or.inl (List.mem_of_getElem? (i := 0) rfl))
  have f25 : Px Z h23 ar .byte ln [(.int (nar .byte ((x0 ^^^ (-1 : Int32)).toInt8.toInt32))), (.int (nar .byte ((x1 ^^^ (-1 : Int32)).toInt8.toInt32))), (.int x2)] := ⟨_, _, Arv.set Ar21 qq21 Sz21 Nn21 Hs21 Gf21 (by first | rfl | exact fits_nar_byte _) W23 1 rfl (by simp only [List.length_append, List.length_cons, List.length_nil]; omega)⟩
  have N26 := Fr.snoc X23 N12 pf_G_ar
  have f27 := (f13.other W23 (Or.inl pf_NE_a9_0_ar))
  obtain ⟨T28, X28, e28, st28⟩ := getF X23 hx hZ hown (host := "") (Or.inl wo27) Via.refl e23 f27 (g := (mkF m 4 #[rv a9_0, iv (0 : Int32), iv (2 : Int32)] [(.ref a9_0), (.int (2 : Int32))])) rfl rfl (hb hby d9_4)
  have f29 := (f15.other W23 (Or.inl pf_NE_a9_0_ar))
  obtain ⟨T30, X30, e30, st30⟩ := getF X28 hx hZ hown (host := "") (Or.inl wo16) Via.refl e28 f29 (g := (mkF m 11 #[rv a9_0, iv (0 : Int32), iv (2 : Int32)] [(.ref a9_0)])) rfl rfl (hb hby d9_11)
  obtain ⟨T31, X31, e31, st31⟩ := getF X30 hx hZ hown (host := "") (Or.inl wo16) Via.refl e30 f29 (g := (mkF m 16 #[rv a9_0, iv (0 : Int32), iv (2 : Int32)] [(.ref a9_0), (.int (2 : Int32)), (.ref ar)])) rfl rfl (hb hby d9_16)
  obtain ⟨re32, kk32, cl32, Ar32, qq32, Sz32, Nn32, Hs32, Gf32⟩ := id f25
  have hin33 : ¬ ((2 : Int32) < 0 ∨ cl32.slots.size ≤ ((2 : Int32)).toNatClampNeg) := inb_of Sz32 (own_idx _ (3 : Int32) _ hle (by decide) (by decide))
  have hat34 : cl32.slots[((2 : Int32)).toNatClampNeg]? = some (.int x2) := Has.at Hs32 hin33 rfl
  obtain ⟨re35, kk35, cl35, Ar35, qq35, Sz35, Nn35, Hs35, Gf35⟩ := id f25
  have hin36 : ¬ ((2 : Int32) < 0 ∨ cl35.slots.size ≤ ((2 : Int32)).toNatClampNeg) := inb_of Sz35 (own_idx _ (3 : Int32) _ hle (by decide) (by decide))
  obtain ⟨T37, h37, X37, e37, W37, st37⟩ := stB X31 hx hZ e31 Ar35 (j := (2 : Int32)) hin36 (g := (mkF m 24 #[rv a9_0, iv (0 : Int32), iv (2 : Int32)] [(.int ((x2 ^^^ (-1 : Int32)).toInt8.toInt32)), (.int (2 : Int32)), (.ref ar)])) rfl rfl (hb hby d9_24)
  have K38 : Keep h0 h37 [ar] := (K24).wr W37 (Or.inl (List.mem_of_getElem? (i := 0) rfl))
  have f39 : Px Z h37 ar .byte ln [(.int (nar .byte ((x0 ^^^ (-1 : Int32)).toInt8.toInt32))), (.int (nar .byte ((x1 ^^^ (-1 : Int32)).toInt8.toInt32))), (.int (nar .byte ((x2 ^^^ (-1 : Int32)).toInt8.toInt32)))] := ⟨_, _, Arv.set Ar35 qq35 Sz35 Nn35 Hs35 Gf35 (by first | rfl | exact fits_nar_byte _) W37 2 rfl (by simp only [List.length_append, List.length_cons, List.length_nil]; omega)⟩
  have N40 := Fr.snoc X37 N26 pf_G_ar
  have f41 := (f27.other W37 (Or.inl pf_NE_a9_0_ar))
  obtain ⟨T42, X42, e42, st42⟩ := getF X37 hx hZ hown (host := "") (Or.inl wo27) Via.refl e37 f41 (g := (mkF m 4 #[rv a9_0, iv (0 : Int32), iv (3 : Int32)] [(.ref a9_0), (.int (3 : Int32))])) rfl rfl (hb hby d9_4)
  obtain ⟨fs, hr, hrun, hended, hW, hsame⟩ := X42.leave (v := none) (fun _ => rfl)
  refine ⟨_, _, pre0 _ ?_, hrun, hended, _, _, rfl, ?_, ⟨_, rfl⟩, hW, hsame.mono (by decide) (by decide)⟩
  · show Steps p.tables e below (s₁.setTop (mkF m 0 #[rv a9_0, iv (0 : Int32), .unset] [])) _
    refine XS.iloadN X0.here hx rfl (hb hby d9_0) rfl ?_
    show Steps p.tables e below (s₁.setTop (mkF m 1 #[rv a9_0, iv (0 : Int32), .unset] [(.int (0 : Int32))])) _
    refine XS.istoreN X0.here hx rfl (hb hby d9_1) rfl (l' := #[rv a9_0, iv (0 : Int32), iv (0 : Int32)]) rfl ?_
    refine XS.iloadN X0.here hx rfl (hb hby d9_2) rfl ?_
    refine XS.aloadN X0.here hx rfl (hb hby d9_3) rfl rfl ?_
    show Steps p.tables e below (s₁.setTop (mkF m 4 #[rv a9_0, iv (0 : Int32), iv (0 : Int32)] [(.ref a9_0), (.int (0 : Int32))])) _
    refine st1 _ ?_
    show Steps p.tables e below (T1.setTop (mkF m 7 #[rv a9_0, iv (0 : Int32), iv (0 : Int32)] [(.int (3 : Int32)), (.int (0 : Int32))])) _
    refine XS.icmpNo X1.here hx rfl (hb hby d9_7) rfl (tlt (by decide : (0 : Int32) < (3 : Int32))).2.1 ?_
    refine XS.aloadN X1.here hx rfl (hb hby d9_10) rfl rfl ?_
    show Steps p.tables e below (T1.setTop (mkF m 11 #[rv a9_0, iv (0 : Int32), iv (0 : Int32)] [(.ref a9_0)])) _
    refine st2 _ ?_
    show Steps p.tables e below (T2.setTop (mkF m 14 #[rv a9_0, iv (0 : Int32), iv (0 : Int32)] [(.ref ar)])) _
    refine XS.iloadN X2.here hx rfl (hb hby d9_14) rfl ?_
    show Steps p.tables e below (T2.setTop (mkF m 15 #[rv a9_0, iv (0 : Int32), iv (0 : Int32)] [(.int (0 : Int32)), (.ref ar)])) _
    refine XS.aloadN X2.here hx rfl (hb hby d9_15) rfl rfl ?_
    show Steps p.tables e below (T2.setTop (mkF m 16 #[rv a9_0, iv (0 : Int32), iv (0 : Int32)] [(.ref a9_0), (.int (0 : Int32)), (.ref ar)])) _
    refine st3 _ ?_
    show Steps p.tables e below (T3.setTop (mkF m 19 #[rv a9_0, iv (0 : Int32), iv (0 : Int32)] [(.ref ar), (.int (0 : Int32)), (.ref ar)])) _
    refine XS.iloadN X3.here hx rfl (hb hby d9_19) rfl ?_
    show Steps p.tables e below (T3.setTop (mkF m 20 #[rv a9_0, iv (0 : Int32), iv (0 : Int32)] [(.int (0 : Int32)), (.ref ar), (.int (0 : Int32)), (.ref ar)])) _
    refine X3.baloadBytes hx (j := (0 : Int32)) (v := (.int x0)) (by rw [e3]; exact Ar4.1) (State.isArrayOf_alike hZ.alike Ar4.2.1) Ar4.2.2 hin5 hat6 (g := (mkF m 20 #[rv a9_0, iv (0 : Int32), iv (0 : Int32)] [(.int (0 : Int32)), (.ref ar), (.int (0 : Int32)), (.ref ar)])) rfl rfl (hb hby d9_20) _ ?_
    show Steps p.tables e below (T3.setTop (mkF m 21 #[rv a9_0, iv (0 : Int32), iv (0 : Int32)] [(.int x0), (.int (0 : Int32)), (.ref ar)])) _
    refine XS.iconst X3.here hx rfl (hb hby d9_21) ?_
    refine XS.ixor X3.here hx rfl (hb hby d9_22) rfl ?_
    refine XS.i2b X3.here hx rfl (hb hby d9_23) rfl ?_
    show Steps p.tables e below (T3.setTop (mkF m 24 #[rv a9_0, iv (0 : Int32), iv (0 : Int32)] [(.int ((x0 ^^^ (-1 : Int32)).toInt8.toInt32)), (.int (0 : Int32)), (.ref ar)])) _
    refine st9 _ ?_
    show Steps p.tables e below (T9.setTop (mkF m 25 #[rv a9_0, iv (0 : Int32), iv (0 : Int32)] [])) _
    refine XS.iinc X9.here hx rfl (hb hby d9_25) rfl (l' := #[rv a9_0, iv (0 : Int32), iv (1 : Int32)]) rfl ?_
    refine XS.goto X9.here hx rfl (pc0 := 28) (pc' := 2) rfl (hb hby d9_28) (by decide) (by decide) ?_
    refine XS.iloadN X9.here hx rfl (hb hby d9_2) rfl ?_
    refine XS.aloadN X9.here hx rfl (hb hby d9_3) rfl rfl ?_
    show Steps p.tables e below (T9.setTop (mkF m 4 #[rv a9_0, iv (0 : Int32), iv (1 : Int32)] [(.ref a9_0), (.int (1 : Int32))])) _
    refine st14 _ ?_
    show Steps p.tables e below (T14.setTop (mkF m 7 #[rv a9_0, iv (0 : Int32), iv (1 : Int32)] [(.int (3 : Int32)), (.int (1 : Int32))])) _
    refine XS.icmpNo X14.here hx rfl (hb hby d9_7) rfl (tlt (by decide : (1 : Int32) < (3 : Int32))).2.1 ?_
    refine XS.aloadN X14.here hx rfl (hb hby d9_10) rfl rfl ?_
    show Steps p.tables e below (T14.setTop (mkF m 11 #[rv a9_0, iv (0 : Int32), iv (1 : Int32)] [(.ref a9_0)])) _
    refine st16 _ ?_
    show Steps p.tables e below (T16.setTop (mkF m 14 #[rv a9_0, iv (0 : Int32), iv (1 : Int32)] [(.ref ar)])) _
    refine XS.iloadN X16.here hx rfl (hb hby d9_14) rfl ?_
    refine XS.aloadN X16.here hx rfl (hb hby d9_15) rfl rfl ?_
    show Steps p.tables e below (T16.setTop (mkF m 16 #[rv a9_0, iv (0 : Int32), iv (1 : Int32)] [(.ref a9_0), (.int (1 : Int32)), (.ref ar)])) _
    refine st17 _ ?_
    show Steps p.tables e below (T17.setTop (mkF m 19 #[rv a9_0, iv (0 : Int32), iv (1 : Int32)] [(.ref ar), (.int (1 : Int32)), (.ref ar)])) _
    refine XS.iloadN X17.here hx rfl (hb hby d9_19) rfl ?_
    show Steps p.tables e below (T17.setTop (mkF m 20 #[rv a9_0, iv (0 : Int32), iv (1 : Int32)] [(.int (1 : Int32)), (.ref ar), (.int (1 : Int32)), (.ref ar)])) _
    refine X17.baloadBytes hx (j := (1 : Int32)) (v := (.int x1)) (by rw [e17]; exact Ar18.1) (State.isArrayOf_alike hZ.alike Ar18.2.1) Ar18.2.2 hin19 hat20 (g := (mkF m 20 #[rv a9_0, iv (0 : Int32), iv (1 : Int32)] [(.int (1 : Int32)), (.ref ar), (.int (1 : Int32)), (.ref ar)])) rfl rfl (hb hby d9_20) _ ?_
    show Steps p.tables e below (T17.setTop (mkF m 21 #[rv a9_0, iv (0 : Int32), iv (1 : Int32)] [(.int x1), (.int (1 : Int32)), (.ref ar)])) _
    refine XS.iconst X17.here hx rfl (hb hby d9_21) ?_
    refine XS.ixor X17.here hx rfl (hb hby d9_22) rfl ?_
    refine XS.i2b X17.here hx rfl (hb hby d9_23) rfl ?_
    show Steps p.tables e below (T17.setTop (mkF m 24 #[rv a9_0, iv (0 : Int32), iv (1 : Int32)] [(.int ((x1 ^^^ (-1 : Int32)).toInt8.toInt32)), (.int (1 : Int32)), (.ref ar)])) _
    refine st23 _ ?_
    show Steps p.tables e below (T23.setTop (mkF m 25 #[rv a9_0, iv (0 : Int32), iv (1 : Int32)] [])) _
    refine XS.iinc X23.here hx rfl (hb hby d9_25) rfl (l' := #[rv a9_0, iv (0 : Int32), iv (2 : Int32)]) rfl ?_
    refine XS.goto X23.here hx rfl (pc0 := 28) (pc' := 2) rfl (hb hby d9_28) (by decide) (by decide) ?_
    refine XS.iloadN X23.here hx rfl (hb hby d9_2) rfl ?_
    show Steps p.tables e below (T23.setTop (mkF m 3 #[rv a9_0, iv (0 : Int32), iv (2 : Int32)] [(.int (2 : Int32))])) _
    refine XS.aloadN X23.here hx rfl (hb hby d9_3) rfl rfl ?_
    show Steps p.tables e below (T23.setTop (mkF m 4 #[rv a9_0, iv (0 : Int32), iv (2 : Int32)] [(.ref a9_0), (.int (2 : Int32))])) _
    refine st28 _ ?_
    show Steps p.tables e below (T28.setTop (mkF m 7 #[rv a9_0, iv (0 : Int32), iv (2 : Int32)] [(.int (3 : Int32)), (.int (2 : Int32))])) _
    refine XS.icmpNo X28.here hx rfl (hb hby d9_7) rfl (tlt (by decide : (2 : Int32) < (3 : Int32))).2.1 ?_
    refine XS.aloadN X28.here hx rfl (hb hby d9_10) rfl rfl ?_
    show Steps p.tables e below (T28.setTop (mkF m 11 #[rv a9_0, iv (0 : Int32), iv (2 : Int32)] [(.ref a9_0)])) _
    refine st30 _ ?_
    show Steps p.tables e below (T30.setTop (mkF m 14 #[rv a9_0, iv (0 : Int32), iv (2 : Int32)] [(.ref ar)])) _
    refine XS.iloadN X30.here hx rfl (hb hby d9_14) rfl ?_
    refine XS.aloadN X30.here hx rfl (hb hby d9_15) rfl rfl ?_
    show Steps p.tables e below (T30.setTop (mkF m 16 #[rv a9_0, iv (0 : Int32), iv (2 : Int32)] [(.ref a9_0), (.int (2 : Int32)), (.ref ar)])) _
    refine st31 _ ?_
    show Steps p.tables e below (T31.setTop (mkF m 19 #[rv a9_0, iv (0 : Int32), iv (2 : Int32)] [(.ref ar), (.int (2 : Int32)), (.ref ar)])) _
    refine XS.iloadN X31.here hx rfl (hb hby d9_19) rfl ?_
    show Steps p.tables e below (T31.setTop (mkF m 20 #[rv a9_0, iv (0 : Int32), iv (2 : Int32)] [(.int (2 : Int32)), (.ref ar), (.int (2 : Int32)), (.ref ar)])) _
    refine X31.baloadBytes hx (j := (2 : Int32)) (v := (.int x2)) (by rw [e31]; exact Ar32.1) (State.isArrayOf_alike hZ.alike Ar32.2.1) Ar32.2.2 hin33 hat34 (g := (mkF m 20 #[rv a9_0, iv (0 : Int32), iv (2 : Int32)] [(.int (2 : Int32)), (.ref ar), (.int (2 : Int32)), (.ref ar)])) rfl rfl (hb hby d9_20) _ ?_
    show Steps p.tables e below (T31.setTop (mkF m 21 #[rv a9_0, iv (0 : Int32), iv (2 : Int32)] [(.int x2), (.int (2 : Int32)), (.ref ar)])) _
    refine XS.iconst X31.here hx rfl (hb hby d9_21) ?_
    refine XS.ixor X31.here hx rfl (hb hby d9_22) rfl ?_
    show Steps p.tables e below (T31.setTop (mkF m 23 #[rv a9_0, iv (0 : Int32), iv (2 : Int32)] [(.int (x2 ^^^ (-1 : Int32))), (.int (2 : Int32)), (.ref ar)])) _
    refine XS.i2b X31.here hx rfl (hb hby d9_23) rfl ?_
    show Steps p.tables e below (T31.setTop (mkF m 24 #[rv a9_0, iv (0 : Int32), iv (2 : Int32)] [(.int ((x2 ^^^ (-1 : Int32)).toInt8.toInt32)), (.int (2 : Int32)), (.ref ar)])) _
    refine st37 _ ?_
    show Steps p.tables e below (T37.setTop (mkF m 25 #[rv a9_0, iv (0 : Int32), iv (2 : Int32)] [])) _
    refine XS.iinc X37.here hx rfl (hb hby d9_25) rfl (l' := #[rv a9_0, iv (0 : Int32), iv (3 : Int32)]) rfl ?_
    refine XS.goto X37.here hx rfl (pc0 := 28) (pc' := 2) rfl (hb hby d9_28) (by decide) (by decide) ?_
    show Steps p.tables e below (T37.setTop (mkF m 2 #[rv a9_0, iv (0 : Int32), iv (3 : Int32)] [])) _
    refine XS.iloadN X37.here hx rfl (hb hby d9_2) rfl ?_
    refine XS.aloadN X37.here hx rfl (hb hby d9_3) rfl rfl ?_
    show Steps p.tables e below (T37.setTop (mkF m 4 #[rv a9_0, iv (0 : Int32), iv (3 : Int32)] [(.ref a9_0), (.int (3 : Int32))])) _
    refine st42 _ ?_
    show Steps p.tables e below (T42.setTop (mkF m 7 #[rv a9_0, iv (0 : Int32), iv (3 : Int32)] [(.int (3 : Int32)), (.int (3 : Int32))])) _
    refine XS.icmpYes X42.here hx rfl (pc0 := 7) (pc' := 31) rfl (hb hby d9_7) rfl (flt (by decide : ¬ ((3 : Int32) < (3 : Int32)))).2.1 (by decide) (by decide) ?_
    show Steps p.tables e below (T42.setTop (mkF m 31 #[rv a9_0, iv (0 : Int32), iv (3 : Int32)] [])) _
    exact X42.returnOut hx Bd.returns (hb hby d9_31) hr
  · show Q_rm_in3_0 Z _ _ _ _ _ _ h0 n0 _ T42.heap _
    rw [e42]
    exact ⟨rfl, N40, (K38), f39⟩
theorem ef_rm_in3_1 (m : MethodId) (x0 : Addr) (x1 : Int32) : entryFrame m #[(.ref x0), (.int x1)] 3 = mkF m 0 #[rv x0, iv x1, .unset] [] := by first | (simp [entryFrame, mkF, argsToLocals, Value.category]; done) | rfl
def Q_rm_in3_1 (Z : State) (a9_0 : Addr) (ar : Addr) (ln : Int32) (x0 : Int32) (x1 : Int32) (x2 : Int32) (h0 : Heap) (n0 : Nat) (v : Option Value) (h : Heap) (L : List Loc) : Prop := v = none ∧ Fr n0 L ∧ Keep h0 h [ar] ∧ (Px Z h ar .byte ln [(.int x0), (.int (nar .byte ((x1 ^^^ (-1 : Int32)).toInt8.toInt32))), (.int (nar .byte ((x2 ^^^ (-1 : Int32)).toInt8.toInt32)))])
set_option maxRecDepth 65536 in
set_option maxHeartbeats 40000000 in
theorem rm_in3_1 (l : Launch) (Z : State) (a0 : Array Value) (hw : ∀ d ∈ tables_1, d.before a0 Z = true) (ws : List Jvm.Cond) (a9_0 : Addr) (ar : Addr) (ln : Int32) (x0 : Int32) (x1 : Int32) (x2 : Int32) (h0 : Heap) (n0 : Nat) (Z0 : n0 ≤ h0.size) (pf_G_ar : n0 ≤ ar) (pf_NE_a9_0_ar : a9_0 ≠ ar) (pf_F_a9_0_bytes : Fld Z h0 a9_0 "com/example/dido/dido/keys/KeyWriter" "bytes" "[B" (.ref ar)) (pf_F_a9_0_size : Fld Z h0 a9_0 "com/example/dido/dido/keys/KeyWriter" "size" "I" (.int (3 : Int32))) (pf_X_ar : Px Z h0 ar .byte ln [(.int x0), (.int x1), (.int x2)]) (hle : (3 : Int32).toInt ≤ ln.toInt) :
    MetFree l (⟨"com/example/dido/dido/keys/KeyWriter", "invert", "(I)V"⟩ : MethodName) (head1 (Jvm.Cond.code (⟨"com/example/dido/dido/keys/KeyWriter", "invert", "(I)V"⟩ : MethodName) prog_15_method_11_code 3 none :: ws) ({ frames := 0, cells := 0, slots := 0, locals := 0 } : Room)) (fun a U => a = #[(.ref a9_0), (.int (1 : Int32))] ∧ Z.Warmed39 U.vm ∧ U.heap = h0) (fun _ _ _ _ _ => True) (fun _ U o U' => ∃ v L, o = .returned v ∧ Q_rm_in3_1 Z a9_0 ar ln x0 x1 x2 h0 n0 v U'.heap L ∧ FrameEnd U o U' L ({ frames := 0, cells := 0, slots := 0, locals := 0 } : Room).cells ({ frames := 0, cells := 0, slots := 0, locals := 0 } : Room).slots) := by
  refine MetFree.of_bodySF (plainFor_of_name pn_com_example_dido_dido_keys_KeyWriter) hisR ?_
  intro p e s m args below meth c s₁ Bd hml0 hP hK
  obtain ⟨rfl, hZ, hh⟩ := hP
  have hx := Bd.exec
  have hby := Bd.bytes
  have hml : c.maxLocals = 3 := hml0
  have hown : s.vm.findClass "com/example/dido/dido/keys/KeyWriter" = some m.cls := findClass_of_methodNamed Bd.named
  have hnm := (name_of_methodNamed Bd.named Bd.method).1
  have X0 : Stand p l e ({ frames := 0, cells := 0, slots := 0, locals := 0 } : Room) s m #[(.ref a9_0), (.int (1 : Int32))] below meth c s₁ [] 0 0 := Stand.of_body Bd
  have e0 : s₁.heap = h0 := by rw [← hh, Bd.state]; rfl
  have N0 := Fr.nil n0
  have pre0 : ∀ t, Steps p.tables e below (s₁.setTop (mkF m 0 #[rv a9_0, iv (1 : Int32), .unset] [])) t → Steps p.tables e below (s₁.setTop (entryFrame m #[(.ref a9_0), (.int (1 : Int32))] 3)) t := fun t k => castTop (ef_rm_in3_1 m a9_0 (1 : Int32)) k
  have wo16 := hw _ (List.mem_of_getElem? (i := 16) rfl)
  have wo27 := hw _ (List.mem_of_getElem? (i := 27) rfl)
  obtain ⟨T1, X1, e1, st1⟩ := getF X0 hx hZ hown (host := "") (Or.inl wo27) Via.refl e0 pf_F_a9_0_size (g := (mkF m 4 #[rv a9_0, iv (1 : Int32), iv (1 : Int32)] [(.ref a9_0), (.int (1 : Int32))])) rfl rfl (hb hby d9_4)
  obtain ⟨T2, X2, e2, st2⟩ := getF X1 hx hZ hown (host := "") (Or.inl wo16) Via.refl e1 pf_F_a9_0_bytes (g := (mkF m 11 #[rv a9_0, iv (1 : Int32), iv (1 : Int32)] [(.ref a9_0)])) rfl rfl (hb hby d9_11)
  obtain ⟨T3, X3, e3, st3⟩ := getF X2 hx hZ hown (host := "") (Or.inl wo16) Via.refl e2 pf_F_a9_0_bytes (g := (mkF m 16 #[rv a9_0, iv (1 : Int32), iv (1 : Int32)] [(.ref a9_0), (.int (1 : Int32)), (.ref ar)])) rfl rfl (hb hby d9_16)
  obtain ⟨re4, kk4, cl4, Ar4, qq4, Sz4, Nn4, Hs4, Gf4⟩ := id pf_X_ar
  have hin5 : ¬ ((1 : Int32) < 0 ∨ cl4.slots.size ≤ ((1 : Int32)).toNatClampNeg) := inb_of Sz4 (own_idx _ (3 : Int32) _ hle (by decide) (by decide))
  have hat6 : cl4.slots[((1 : Int32)).toNatClampNeg]? = some (.int x1) := Has.at Hs4 hin5 rfl
  obtain ⟨re7, kk7, cl7, Ar7, qq7, Sz7, Nn7, Hs7, Gf7⟩ := id pf_X_ar
  have hin8 : ¬ ((1 : Int32) < 0 ∨ cl7.slots.size ≤ ((1 : Int32)).toNatClampNeg) := inb_of Sz7 (own_idx _ (3 : Int32) _ hle (by decide) (by decide))
  obtain ⟨T9, h9, X9, e9, W9, st9⟩ := stB X3 hx hZ e3 Ar7 (j := (1 : Int32)) hin8 (g := (mkF m 24 #[rv a9_0, iv (1 : Int32), iv (1 : Int32)] [(.int ((x1 ^^^ (-1 : Int32)).toInt8.toInt32)), (.int (1 : Int32)), (.ref ar)])) rfl rfl (hb hby d9_24)
  have K10 : Keep h0 h9 [ar] := (Keep.refl h0 [ar]).wr W9 (Or.inl (List.mem_of_getElem? (i := 0) rfl))
  have f11 : Px Z h9 ar .byte ln [(.int x0), (.int (nar .byte ((x1 ^^^ (-1 : Int32)).toInt8.toInt32))), (.int x2)] := ⟨_, _, Arv.set Ar7 qq7 Sz7 Nn7 Hs7 Gf7 (by first | rfl | exact fits_nar_byte _) W9 1 rfl (by simp only [List.length_append, List.length_cons, List.length_nil]; omega)⟩
  have N12 := Fr.snoc X9 N0 pf_G_ar
  have f13 := (pf_F_a9_0_size.other W9 (Or.inl pf_NE_a9_0_ar))
  obtain ⟨T14, X14, e14, st14⟩ := getF X9 hx hZ hown (host := "") (Or.inl wo27) Via.refl e9 f13 (g := (mkF m 4 #[rv a9_0, iv (1 : Int32), iv (2 : Int32)] [(.ref a9_0), (.int (2 : Int32))])) rfl rfl (hb hby d9_4)
  have f15 := (pf_F_a9_0_bytes.other W9 (Or.inl pf_NE_a9_0_ar))
  obtain ⟨T16, X16, e16, st16⟩ := getF X14 hx hZ hown (host := "") (Or.inl wo16) Via.refl e14 f15 (g := (mkF m 11 #[rv a9_0, iv (1 : Int32), iv (2 : Int32)] [(.ref a9_0)])) rfl rfl (hb hby d9_11)
  obtain ⟨T17, X17, e17, st17⟩ := getF X16 hx hZ hown (host := "") (Or.inl wo16) Via.refl e16 f15 (g := (mkF m 16 #[rv a9_0, iv (1 : Int32), iv (2 : Int32)] [(.ref a9_0), (.int (2 : Int32)), (.ref ar)])) rfl rfl (hb hby d9_16)
  obtain ⟨re18, kk18, cl18, Ar18, qq18, Sz18, Nn18, Hs18, Gf18⟩ := id f11
  have hin19 : ¬ ((2 : Int32) < 0 ∨ cl18.slots.size ≤ ((2 : Int32)).toNatClampNeg) := inb_of Sz18 (own_idx _ (3 : Int32) _ hle (by decide) (by decide))
  have hat20 : cl18.slots[((2 : Int32)).toNatClampNeg]? = some (.int x2) := Has.at Hs18 hin19 rfl
  obtain ⟨re21, kk21, cl21, Ar21, qq21, Sz21, Nn21, Hs21, Gf21⟩ := id f11
  have hin22 : ¬ ((2 : Int32) < 0 ∨ cl21.slots.size ≤ ((2 : Int32)).toNatClampNeg) := inb_of Sz21 (own_idx _ (3 : Int32) _ hle (by decide) (by decide))
  obtain ⟨T23, h23, X23, e23, W23, st23⟩ := stB X17 hx hZ e17 Ar21 (j := (2 : Int32)) hin22 (g := (mkF m 24 #[rv a9_0, iv (1 : Int32), iv (2 : Int32)] [(.int ((x2 ^^^ (-1 : Int32)).toInt8.toInt32)), (.int (2 : Int32)), (.ref ar)])) rfl rfl (hb hby d9_24)
  have K24 : Keep h0 h23 [ar] := (K10).wr W23 (Or.inl (List.mem_of_getElem? (i := 0) rfl))
  have f25 : Px Z h23 ar .byte ln [(.int x0), (.int (nar .byte ((x1 ^^^ (-1 : Int32)).toInt8.toInt32))), (.int (nar .byte ((x2 ^^^ (-1 : Int32)).toInt8.toInt32)))] := ⟨_, _, Arv.set Ar21 qq21 Sz21 Nn21 Hs21 Gf21 (by first | rfl | exact fits_nar_byte _) W23 2 rfl (by simp only [List.length_append, List.length_cons, List.length_nil]; omega)⟩
  have N26 := Fr.snoc X23 N12 pf_G_ar
  have f27 := (f13.other W23 (Or.inl pf_NE_a9_0_ar))
  obtain ⟨T28, X28, e28, st28⟩ := getF X23 hx hZ hown (host := "") (Or.inl wo27) Via.refl e23 f27 (g := (mkF m 4 #[rv a9_0, iv (1 : Int32), iv (3 : Int32)] [(.ref a9_0), (.int (3 : Int32))])) rfl rfl (hb hby d9_4)
  obtain ⟨fs, hr, hrun, hended, hW, hsame⟩ := X28.leave (v := none) (fun _ => rfl)
  refine ⟨_, _, pre0 _ ?_, hrun, hended, _, _, rfl, ?_, ⟨_, rfl⟩, hW, hsame.mono (by decide) (by decide)⟩
  · show Steps p.tables e below (s₁.setTop (mkF m 0 #[rv a9_0, iv (1 : Int32), .unset] [])) _
    refine XS.iloadN X0.here hx rfl (hb hby d9_0) rfl ?_
    show Steps p.tables e below (s₁.setTop (mkF m 1 #[rv a9_0, iv (1 : Int32), .unset] [(.int (1 : Int32))])) _
    refine XS.istoreN X0.here hx rfl (hb hby d9_1) rfl (l' := #[rv a9_0, iv (1 : Int32), iv (1 : Int32)]) rfl ?_
    refine XS.iloadN X0.here hx rfl (hb hby d9_2) rfl ?_
    refine XS.aloadN X0.here hx rfl (hb hby d9_3) rfl rfl ?_
    show Steps p.tables e below (s₁.setTop (mkF m 4 #[rv a9_0, iv (1 : Int32), iv (1 : Int32)] [(.ref a9_0), (.int (1 : Int32))])) _
    refine st1 _ ?_
    show Steps p.tables e below (T1.setTop (mkF m 7 #[rv a9_0, iv (1 : Int32), iv (1 : Int32)] [(.int (3 : Int32)), (.int (1 : Int32))])) _
    refine XS.icmpNo X1.here hx rfl (hb hby d9_7) rfl (tlt (by decide : (1 : Int32) < (3 : Int32))).2.1 ?_
    refine XS.aloadN X1.here hx rfl (hb hby d9_10) rfl rfl ?_
    show Steps p.tables e below (T1.setTop (mkF m 11 #[rv a9_0, iv (1 : Int32), iv (1 : Int32)] [(.ref a9_0)])) _
    refine st2 _ ?_
    show Steps p.tables e below (T2.setTop (mkF m 14 #[rv a9_0, iv (1 : Int32), iv (1 : Int32)] [(.ref ar)])) _
    refine XS.iloadN X2.here hx rfl (hb hby d9_14) rfl ?_
    show Steps p.tables e below (T2.setTop (mkF m 15 #[rv a9_0, iv (1 : Int32), iv (1 : Int32)] [(.int (1 : Int32)), (.ref ar)])) _
    refine XS.aloadN X2.here hx rfl (hb hby d9_15) rfl rfl ?_
    show Steps p.tables e below (T2.setTop (mkF m 16 #[rv a9_0, iv (1 : Int32), iv (1 : Int32)] [(.ref a9_0), (.int (1 : Int32)), (.ref ar)])) _
    refine st3 _ ?_
    show Steps p.tables e below (T3.setTop (mkF m 19 #[rv a9_0, iv (1 : Int32), iv (1 : Int32)] [(.ref ar), (.int (1 : Int32)), (.ref ar)])) _
    refine XS.iloadN X3.here hx rfl (hb hby d9_19) rfl ?_
    show Steps p.tables e below (T3.setTop (mkF m 20 #[rv a9_0, iv (1 : Int32), iv (1 : Int32)] [(.int (1 : Int32)), (.ref ar), (.int (1 : Int32)), (.ref ar)])) _
    refine X3.baloadBytes hx (j := (1 : Int32)) (v := (.int x1)) (by rw [e3]; exact Ar4.1) (State.isArrayOf_alike hZ.alike Ar4.2.1) Ar4.2.2 hin5 hat6 (g := (mkF m 20 #[rv a9_0, iv (1 : Int32), iv (1 : Int32)] [(.int (1 : Int32)), (.ref ar), (.int (1 : Int32)), (.ref ar)])) rfl rfl (hb hby d9_20) _ ?_
    show Steps p.tables e below (T3.setTop (mkF m 21 #[rv a9_0, iv (1 : Int32), iv (1 : Int32)] [(.int x1), (.int (1 : Int32)), (.ref ar)])) _
    refine XS.iconst X3.here hx rfl (hb hby d9_21) ?_
    refine XS.ixor X3.here hx rfl (hb hby d9_22) rfl ?_
    refine XS.i2b X3.here hx rfl (hb hby d9_23) rfl ?_
    show Steps p.tables e below (T3.setTop (mkF m 24 #[rv a9_0, iv (1 : Int32), iv (1 : Int32)] [(.int ((x1 ^^^ (-1 : Int32)).toInt8.toInt32)), (.int (1 : Int32)), (.ref ar)])) _
    refine st9 _ ?_
    show Steps p.tables e below (T9.setTop (mkF m 25 #[rv a9_0, iv (1 : Int32), iv (1 : Int32)] [])) _
    refine XS.iinc X9.here hx rfl (hb hby d9_25) rfl (l' := #[rv a9_0, iv (1 : Int32), iv (2 : Int32)]) rfl ?_
    refine XS.goto X9.here hx rfl (pc0 := 28) (pc' := 2) rfl (hb hby d9_28) (by decide) (by decide) ?_
    refine XS.iloadN X9.here hx rfl (hb hby d9_2) rfl ?_
    refine XS.aloadN X9.here hx rfl (hb hby d9_3) rfl rfl ?_
    show Steps p.tables e below (T9.setTop (mkF m 4 #[rv a9_0, iv (1 : Int32), iv (2 : Int32)] [(.ref a9_0), (.int (2 : Int32))])) _
    refine st14 _ ?_
    show Steps p.tables e below (T14.setTop (mkF m 7 #[rv a9_0, iv (1 : Int32), iv (2 : Int32)] [(.int (3 : Int32)), (.int (2 : Int32))])) _
    refine XS.icmpNo X14.here hx rfl (hb hby d9_7) rfl (tlt (by decide : (2 : Int32) < (3 : Int32))).2.1 ?_
    refine XS.aloadN X14.here hx rfl (hb hby d9_10) rfl rfl ?_
    show Steps p.tables e below (T14.setTop (mkF m 11 #[rv a9_0, iv (1 : Int32), iv (2 : Int32)] [(.ref a9_0)])) _
    refine st16 _ ?_
    show Steps p.tables e below (T16.setTop (mkF m 14 #[rv a9_0, iv (1 : Int32), iv (2 : Int32)] [(.ref ar)])) _
    refine XS.iloadN X16.here hx rfl (hb hby d9_14) rfl ?_
    refine XS.aloadN X16.here hx rfl (hb hby d9_15) rfl rfl ?_
    show Steps p.tables e below (T16.setTop (mkF m 16 #[rv a9_0, iv (1 : Int32), iv (2 : Int32)] [(.ref a9_0), (.int (2 : Int32)), (.ref ar)])) _
    refine st17 _ ?_
    show Steps p.tables e below (T17.setTop (mkF m 19 #[rv a9_0, iv (1 : Int32), iv (2 : Int32)] [(.ref ar), (.int (2 : Int32)), (.ref ar)])) _
    refine XS.iloadN X17.here hx rfl (hb hby d9_19) rfl ?_
    show Steps p.tables e below (T17.setTop (mkF m 20 #[rv a9_0, iv (1 : Int32), iv (2 : Int32)] [(.int (2 : Int32)), (.ref ar), (.int (2 : Int32)), (.ref ar)])) _
    refine X17.baloadBytes hx (j := (2 : Int32)) (v := (.int x2)) (by rw [e17]; exact Ar18.1) (State.isArrayOf_alike hZ.alike Ar18.2.1) Ar18.2.2 hin19 hat20 (g := (mkF m 20 #[rv a9_0, iv (1 : Int32), iv (2 : Int32)] [(.int (2 : Int32)), (.ref ar), (.int (2 : Int32)), (.ref ar)])) rfl rfl (hb hby d9_20) _ ?_
    show Steps p.tables e below (T17.setTop (mkF m 21 #[rv a9_0, iv (1 : Int32), iv (2 : Int32)] [(.int x2), (.int (2 : Int32)), (.ref ar)])) _
    refine XS.iconst X17.here hx rfl (hb hby d9_21) ?_
    refine XS.ixor X17.here hx rfl (hb hby d9_22) rfl ?_
    refine XS.i2b X17.here hx rfl (hb hby d9_23) rfl ?_
    show Steps p.tables e below (T17.setTop (mkF m 24 #[rv a9_0, iv (1 : Int32), iv (2 : Int32)] [(.int ((x2 ^^^ (-1 : Int32)).toInt8.toInt32)), (.int (2 : Int32)), (.ref ar)])) _
    refine st23 _ ?_
    show Steps p.tables e below (T23.setTop (mkF m 25 #[rv a9_0, iv (1 : Int32), iv (2 : Int32)] [])) _
    refine XS.iinc X23.here hx rfl (hb hby d9_25) rfl (l' := #[rv a9_0, iv (1 : Int32), iv (3 : Int32)]) rfl ?_
    refine XS.goto X23.here hx rfl (pc0 := 28) (pc' := 2) rfl (hb hby d9_28) (by decide) (by decide) ?_
    refine XS.iloadN X23.here hx rfl (hb hby d9_2) rfl ?_
    show Steps p.tables e below (T23.setTop (mkF m 3 #[rv a9_0, iv (1 : Int32), iv (3 : Int32)] [(.int (3 : Int32))])) _
    refine XS.aloadN X23.here hx rfl (hb hby d9_3) rfl rfl ?_
    show Steps p.tables e below (T23.setTop (mkF m 4 #[rv a9_0, iv (1 : Int32), iv (3 : Int32)] [(.ref a9_0), (.int (3 : Int32))])) _
    refine st28 _ ?_
    show Steps p.tables e below (T28.setTop (mkF m 7 #[rv a9_0, iv (1 : Int32), iv (3 : Int32)] [(.int (3 : Int32)), (.int (3 : Int32))])) _
    refine XS.icmpYes X28.here hx rfl (pc0 := 7) (pc' := 31) rfl (hb hby d9_7) rfl (flt (by decide : ¬ ((3 : Int32) < (3 : Int32)))).2.1 (by decide) (by decide) ?_
    show Steps p.tables e below (T28.setTop (mkF m 31 #[rv a9_0, iv (1 : Int32), iv (3 : Int32)] [])) _
    exact X28.returnOut hx Bd.returns (hb hby d9_31) hr
  · show Q_rm_in3_1 Z _ _ _ _ _ _ h0 n0 _ T28.heap _
    rw [e28]
    exact ⟨rfl, N26, (K24), f25⟩
theorem ef_rm_in3_2 (m : MethodId) (x0 : Addr) (x1 : Int32) : entryFrame m #[(.ref x0), (.int x1)] 3 = mkF m 0 #[rv x0, iv x1, .unset] [] := by first | (simp [entryFrame, mkF, argsToLocals, Value.category]; done) | rfl
def Q_rm_in3_2 (Z : State) (a9_0 : Addr) (ar : Addr) (ln : Int32) (x0 : Int32) (x1 : Int32) (x2 : Int32) (h0 : Heap) (n0 : Nat) (v : Option Value) (h : Heap) (L : List Loc) : Prop := v = none ∧ Fr n0 L ∧ Keep h0 h [ar] ∧ (Px Z h ar .byte ln [(.int x0), (.int x1), (.int (nar .byte ((x2 ^^^ (-1 : Int32)).toInt8.toInt32)))])
set_option maxRecDepth 65536 in
set_option maxHeartbeats 40000000 in
theorem rm_in3_2 (l : Launch) (Z : State) (a0 : Array Value) (hw : ∀ d ∈ tables_1, d.before a0 Z = true) (ws : List Jvm.Cond) (a9_0 : Addr) (ar : Addr) (ln : Int32) (x0 : Int32) (x1 : Int32) (x2 : Int32) (h0 : Heap) (n0 : Nat) (Z0 : n0 ≤ h0.size) (pf_G_ar : n0 ≤ ar) (pf_NE_a9_0_ar : a9_0 ≠ ar) (pf_F_a9_0_bytes : Fld Z h0 a9_0 "com/example/dido/dido/keys/KeyWriter" "bytes" "[B" (.ref ar)) (pf_F_a9_0_size : Fld Z h0 a9_0 "com/example/dido/dido/keys/KeyWriter" "size" "I" (.int (3 : Int32))) (pf_X_ar : Px Z h0 ar .byte ln [(.int x0), (.int x1), (.int x2)]) (hle : (3 : Int32).toInt ≤ ln.toInt) :
    MetFree l (⟨"com/example/dido/dido/keys/KeyWriter", "invert", "(I)V"⟩ : MethodName) (head1 (Jvm.Cond.code (⟨"com/example/dido/dido/keys/KeyWriter", "invert", "(I)V"⟩ : MethodName) prog_15_method_11_code 3 none :: ws) ({ frames := 0, cells := 0, slots := 0, locals := 0 } : Room)) (fun a U => a = #[(.ref a9_0), (.int (2 : Int32))] ∧ Z.Warmed39 U.vm ∧ U.heap = h0) (fun _ _ _ _ _ => True) (fun _ U o U' => ∃ v L, o = .returned v ∧ Q_rm_in3_2 Z a9_0 ar ln x0 x1 x2 h0 n0 v U'.heap L ∧ FrameEnd U o U' L ({ frames := 0, cells := 0, slots := 0, locals := 0 } : Room).cells ({ frames := 0, cells := 0, slots := 0, locals := 0 } : Room).slots) := by
  refine MetFree.of_bodySF (plainFor_of_name pn_com_example_dido_dido_keys_KeyWriter) hisR ?_
  intro p e s m args below meth c s₁ Bd hml0 hP hK
  obtain ⟨rfl, hZ, hh⟩ := hP
  have hx := Bd.exec
  have hby := Bd.bytes
  have hml : c.maxLocals = 3 := hml0
  have hown : s.vm.findClass "com/example/dido/dido/keys/KeyWriter" = some m.cls := findClass_of_methodNamed Bd.named
  have hnm := (name_of_methodNamed Bd.named Bd.method).1
  have X0 : Stand p l e ({ frames := 0, cells := 0, slots := 0, locals := 0 } : Room) s m #[(.ref a9_0), (.int (2 : Int32))] below meth c s₁ [] 0 0 := Stand.of_body Bd
  have e0 : s₁.heap = h0 := by rw [← hh, Bd.state]; rfl
  have N0 := Fr.nil n0
  have pre0 : ∀ t, Steps p.tables e below (s₁.setTop (mkF m 0 #[rv a9_0, iv (2 : Int32), .unset] [])) t → Steps p.tables e below (s₁.setTop (entryFrame m #[(.ref a9_0), (.int (2 : Int32))] 3)) t := fun t k => castTop (ef_rm_in3_2 m a9_0 (2 : Int32)) k
  have wo16 := hw _ (List.mem_of_getElem? (i := 16) rfl)
  have wo27 := hw _ (List.mem_of_getElem? (i := 27) rfl)
  obtain ⟨T1, X1, e1, st1⟩ := getF X0 hx hZ hown (host := "") (Or.inl wo27) Via.refl e0 pf_F_a9_0_size (g := (mkF m 4 #[rv a9_0, iv (2 : Int32), iv (2 : Int32)] [(.ref a9_0), (.int (2 : Int32))])) rfl rfl (hb hby d9_4)
  obtain ⟨T2, X2, e2, st2⟩ := getF X1 hx hZ hown (host := "") (Or.inl wo16) Via.refl e1 pf_F_a9_0_bytes (g := (mkF m 11 #[rv a9_0, iv (2 : Int32), iv (2 : Int32)] [(.ref a9_0)])) rfl rfl (hb hby d9_11)
  obtain ⟨T3, X3, e3, st3⟩ := getF X2 hx hZ hown (host := "") (Or.inl wo16) Via.refl e2 pf_F_a9_0_bytes (g := (mkF m 16 #[rv a9_0, iv (2 : Int32), iv (2 : Int32)] [(.ref a9_0), (.int (2 : Int32)), (.ref ar)])) rfl rfl (hb hby d9_16)
  obtain ⟨re4, kk4, cl4, Ar4, qq4, Sz4, Nn4, Hs4, Gf4⟩ := id pf_X_ar
  have hin5 : ¬ ((2 : Int32) < 0 ∨ cl4.slots.size ≤ ((2 : Int32)).toNatClampNeg) := inb_of Sz4 (own_idx _ (3 : Int32) _ hle (by decide) (by decide))
  have hat6 : cl4.slots[((2 : Int32)).toNatClampNeg]? = some (.int x2) := Has.at Hs4 hin5 rfl
  obtain ⟨re7, kk7, cl7, Ar7, qq7, Sz7, Nn7, Hs7, Gf7⟩ := id pf_X_ar
  have hin8 : ¬ ((2 : Int32) < 0 ∨ cl7.slots.size ≤ ((2 : Int32)).toNatClampNeg) := inb_of Sz7 (own_idx _ (3 : Int32) _ hle (by decide) (by decide))
  obtain ⟨T9, h9, X9, e9, W9, st9⟩ := stB X3 hx hZ e3 Ar7 (j := (2 : Int32)) hin8 (g := (mkF m 24 #[rv a9_0, iv (2 : Int32), iv (2 : Int32)] [(.int ((x2 ^^^ (-1 : Int32)).toInt8.toInt32)), (.int (2 : Int32)), (.ref ar)])) rfl rfl (hb hby d9_24)
  have K10 : Keep h0 h9 [ar] := (Keep.refl h0 [ar]).wr W9 (Or.inl (List.mem_of_getElem? (i := 0) rfl))
  have f11 : Px Z h9 ar .byte ln [(.int x0), (.int x1), (.int (nar .byte ((x2 ^^^ (-1 : Int32)).toInt8.toInt32)))] := ⟨_, _, Arv.set Ar7 qq7 Sz7 Nn7 Hs7 Gf7 (by first | rfl | exact fits_nar_byte _) W9 2 rfl (by simp only [List.length_append, List.length_cons, List.length_nil]; omega)⟩
  have N12 := Fr.snoc X9 N0 pf_G_ar
  have f13 := (pf_F_a9_0_size.other W9 (Or.inl pf_NE_a9_0_ar))
  obtain ⟨T14, X14, e14, st14⟩ := getF X9 hx hZ hown (host := "") (Or.inl wo27) Via.refl e9 f13 (g := (mkF m 4 #[rv a9_0, iv (2 : Int32), iv (3 : Int32)] [(.ref a9_0), (.int (3 : Int32))])) rfl rfl (hb hby d9_4)
  obtain ⟨fs, hr, hrun, hended, hW, hsame⟩ := X14.leave (v := none) (fun _ => rfl)
  refine ⟨_, _, pre0 _ ?_, hrun, hended, _, _, rfl, ?_, ⟨_, rfl⟩, hW, hsame.mono (by decide) (by decide)⟩
  · show Steps p.tables e below (s₁.setTop (mkF m 0 #[rv a9_0, iv (2 : Int32), .unset] [])) _
    refine XS.iloadN X0.here hx rfl (hb hby d9_0) rfl ?_
    show Steps p.tables e below (s₁.setTop (mkF m 1 #[rv a9_0, iv (2 : Int32), .unset] [(.int (2 : Int32))])) _
    refine XS.istoreN X0.here hx rfl (hb hby d9_1) rfl (l' := #[rv a9_0, iv (2 : Int32), iv (2 : Int32)]) rfl ?_
    refine XS.iloadN X0.here hx rfl (hb hby d9_2) rfl ?_
    refine XS.aloadN X0.here hx rfl (hb hby d9_3) rfl rfl ?_
    show Steps p.tables e below (s₁.setTop (mkF m 4 #[rv a9_0, iv (2 : Int32), iv (2 : Int32)] [(.ref a9_0), (.int (2 : Int32))])) _
    refine st1 _ ?_
    show Steps p.tables e below (T1.setTop (mkF m 7 #[rv a9_0, iv (2 : Int32), iv (2 : Int32)] [(.int (3 : Int32)), (.int (2 : Int32))])) _
    refine XS.icmpNo X1.here hx rfl (hb hby d9_7) rfl (tlt (by decide : (2 : Int32) < (3 : Int32))).2.1 ?_
    refine XS.aloadN X1.here hx rfl (hb hby d9_10) rfl rfl ?_
    show Steps p.tables e below (T1.setTop (mkF m 11 #[rv a9_0, iv (2 : Int32), iv (2 : Int32)] [(.ref a9_0)])) _
    refine st2 _ ?_
    show Steps p.tables e below (T2.setTop (mkF m 14 #[rv a9_0, iv (2 : Int32), iv (2 : Int32)] [(.ref ar)])) _
    refine XS.iloadN X2.here hx rfl (hb hby d9_14) rfl ?_
    show Steps p.tables e below (T2.setTop (mkF m 15 #[rv a9_0, iv (2 : Int32), iv (2 : Int32)] [(.int (2 : Int32)), (.ref ar)])) _
    refine XS.aloadN X2.here hx rfl (hb hby d9_15) rfl rfl ?_
    show Steps p.tables e below (T2.setTop (mkF m 16 #[rv a9_0, iv (2 : Int32), iv (2 : Int32)] [(.ref a9_0), (.int (2 : Int32)), (.ref ar)])) _
    refine st3 _ ?_
    show Steps p.tables e below (T3.setTop (mkF m 19 #[rv a9_0, iv (2 : Int32), iv (2 : Int32)] [(.ref ar), (.int (2 : Int32)), (.ref ar)])) _
    refine XS.iloadN X3.here hx rfl (hb hby d9_19) rfl ?_
    show Steps p.tables e below (T3.setTop (mkF m 20 #[rv a9_0, iv (2 : Int32), iv (2 : Int32)] [(.int (2 : Int32)), (.ref ar), (.int (2 : Int32)), (.ref ar)])) _
    refine X3.baloadBytes hx (j := (2 : Int32)) (v := (.int x2)) (by rw [e3]; exact Ar4.1) (State.isArrayOf_alike hZ.alike Ar4.2.1) Ar4.2.2 hin5 hat6 (g := (mkF m 20 #[rv a9_0, iv (2 : Int32), iv (2 : Int32)] [(.int (2 : Int32)), (.ref ar), (.int (2 : Int32)), (.ref ar)])) rfl rfl (hb hby d9_20) _ ?_
    show Steps p.tables e below (T3.setTop (mkF m 21 #[rv a9_0, iv (2 : Int32), iv (2 : Int32)] [(.int x2), (.int (2 : Int32)), (.ref ar)])) _
    refine XS.iconst X3.here hx rfl (hb hby d9_21) ?_
    refine XS.ixor X3.here hx rfl (hb hby d9_22) rfl ?_
    refine XS.i2b X3.here hx rfl (hb hby d9_23) rfl ?_
    show Steps p.tables e below (T3.setTop (mkF m 24 #[rv a9_0, iv (2 : Int32), iv (2 : Int32)] [(.int ((x2 ^^^ (-1 : Int32)).toInt8.toInt32)), (.int (2 : Int32)), (.ref ar)])) _
    refine st9 _ ?_
    show Steps p.tables e below (T9.setTop (mkF m 25 #[rv a9_0, iv (2 : Int32), iv (2 : Int32)] [])) _
    refine XS.iinc X9.here hx rfl (hb hby d9_25) rfl (l' := #[rv a9_0, iv (2 : Int32), iv (3 : Int32)]) rfl ?_
    refine XS.goto X9.here hx rfl (pc0 := 28) (pc' := 2) rfl (hb hby d9_28) (by decide) (by decide) ?_
    refine XS.iloadN X9.here hx rfl (hb hby d9_2) rfl ?_
    refine XS.aloadN X9.here hx rfl (hb hby d9_3) rfl rfl ?_
    show Steps p.tables e below (T9.setTop (mkF m 4 #[rv a9_0, iv (2 : Int32), iv (3 : Int32)] [(.ref a9_0), (.int (3 : Int32))])) _
    refine st14 _ ?_
    show Steps p.tables e below (T14.setTop (mkF m 7 #[rv a9_0, iv (2 : Int32), iv (3 : Int32)] [(.int (3 : Int32)), (.int (3 : Int32))])) _
    refine XS.icmpYes X14.here hx rfl (pc0 := 7) (pc' := 31) rfl (hb hby d9_7) rfl (flt (by decide : ¬ ((3 : Int32) < (3 : Int32)))).2.1 (by decide) (by decide) ?_
    show Steps p.tables e below (T14.setTop (mkF m 31 #[rv a9_0, iv (2 : Int32), iv (3 : Int32)] [])) _
    exact X14.returnOut hx Bd.returns (hb hby d9_31) hr
  · show Q_rm_in3_2 Z _ _ _ _ _ _ h0 n0 _ T14.heap _
    rw [e14]
    exact ⟨rfl, N12, (K10), f11⟩
theorem ef_rm_in3_3 (m : MethodId) (x0 : Addr) (x1 : Int32) : entryFrame m #[(.ref x0), (.int x1)] 3 = mkF m 0 #[rv x0, iv x1, .unset] [] := by first | (simp [entryFrame, mkF, argsToLocals, Value.category]; done) | rfl
def Q_rm_in3_3 (Z : State) (a9_0 : Addr) (ar : Addr) (ln : Int32) (x0 : Int32) (x1 : Int32) (x2 : Int32) (h0 : Heap) (n0 : Nat) (v : Option Value) (h : Heap) (L : List Loc) : Prop := v = none ∧ Fr n0 L ∧ Keep h0 h [ar] ∧ (Px Z h ar .byte ln [(.int x0), (.int x1), (.int x2)])
set_option maxRecDepth 65536 in
set_option maxHeartbeats 40000000 in
theorem rm_in3_3 (l : Launch) (Z : State) (a0 : Array Value) (hw : ∀ d ∈ tables_1, d.before a0 Z = true) (ws : List Jvm.Cond) (a9_0 : Addr) (ar : Addr) (ln : Int32) (x0 : Int32) (x1 : Int32) (x2 : Int32) (h0 : Heap) (n0 : Nat) (Z0 : n0 ≤ h0.size) (pf_G_ar : n0 ≤ ar) (pf_NE_a9_0_ar : a9_0 ≠ ar) (pf_F_a9_0_bytes : Fld Z h0 a9_0 "com/example/dido/dido/keys/KeyWriter" "bytes" "[B" (.ref ar)) (pf_F_a9_0_size : Fld Z h0 a9_0 "com/example/dido/dido/keys/KeyWriter" "size" "I" (.int (3 : Int32))) (pf_X_ar : Px Z h0 ar .byte ln [(.int x0), (.int x1), (.int x2)]) (hle : (3 : Int32).toInt ≤ ln.toInt) :
    MetFree l (⟨"com/example/dido/dido/keys/KeyWriter", "invert", "(I)V"⟩ : MethodName) (head1 (Jvm.Cond.code (⟨"com/example/dido/dido/keys/KeyWriter", "invert", "(I)V"⟩ : MethodName) prog_15_method_11_code 3 none :: ws) ({ frames := 0, cells := 0, slots := 0, locals := 0 } : Room)) (fun a U => a = #[(.ref a9_0), (.int (3 : Int32))] ∧ Z.Warmed39 U.vm ∧ U.heap = h0) (fun _ _ _ _ _ => True) (fun _ U o U' => ∃ v L, o = .returned v ∧ Q_rm_in3_3 Z a9_0 ar ln x0 x1 x2 h0 n0 v U'.heap L ∧ FrameEnd U o U' L ({ frames := 0, cells := 0, slots := 0, locals := 0 } : Room).cells ({ frames := 0, cells := 0, slots := 0, locals := 0 } : Room).slots) := by
  refine MetFree.of_bodySF (plainFor_of_name pn_com_example_dido_dido_keys_KeyWriter) hisR ?_
  intro p e s m args below meth c s₁ Bd hml0 hP hK
  obtain ⟨rfl, hZ, hh⟩ := hP
  have hx := Bd.exec
  have hby := Bd.bytes
  have hml : c.maxLocals = 3 := hml0
  have hown : s.vm.findClass "com/example/dido/dido/keys/KeyWriter" = some m.cls := findClass_of_methodNamed Bd.named
  have hnm := (name_of_methodNamed Bd.named Bd.method).1
  have X0 : Stand p l e ({ frames := 0, cells := 0, slots := 0, locals := 0 } : Room) s m #[(.ref a9_0), (.int (3 : Int32))] below meth c s₁ [] 0 0 := Stand.of_body Bd
  have e0 : s₁.heap = h0 := by rw [← hh, Bd.state]; rfl
  have N0 := Fr.nil n0
  have pre0 : ∀ t, Steps p.tables e below (s₁.setTop (mkF m 0 #[rv a9_0, iv (3 : Int32), .unset] [])) t → Steps p.tables e below (s₁.setTop (entryFrame m #[(.ref a9_0), (.int (3 : Int32))] 3)) t := fun t k => castTop (ef_rm_in3_3 m a9_0 (3 : Int32)) k
  have wo27 := hw _ (List.mem_of_getElem? (i := 27) rfl)
  obtain ⟨T1, X1, e1, st1⟩ := getF X0 hx hZ hown (host := "") (Or.inl wo27) Via.refl e0 pf_F_a9_0_size (g := (mkF m 4 #[rv a9_0, iv (3 : Int32), iv (3 : Int32)] [(.ref a9_0), (.int (3 : Int32))])) rfl rfl (hb hby d9_4)
  obtain ⟨fs, hr, hrun, hended, hW, hsame⟩ := X1.leave (v := none) (fun _ => rfl)
  refine ⟨_, _, pre0 _ ?_, hrun, hended, _, _, rfl, ?_, ⟨_, rfl⟩, hW, hsame.mono (by decide) (by decide)⟩
  · show Steps p.tables e below (s₁.setTop (mkF m 0 #[rv a9_0, iv (3 : Int32), .unset] [])) _
    refine XS.iloadN X0.here hx rfl (hb hby d9_0) rfl ?_
    show Steps p.tables e below (s₁.setTop (mkF m 1 #[rv a9_0, iv (3 : Int32), .unset] [(.int (3 : Int32))])) _
    refine XS.istoreN X0.here hx rfl (hb hby d9_1) rfl (l' := #[rv a9_0, iv (3 : Int32), iv (3 : Int32)]) rfl ?_
    refine XS.iloadN X0.here hx rfl (hb hby d9_2) rfl ?_
    refine XS.aloadN X0.here hx rfl (hb hby d9_3) rfl rfl ?_
    show Steps p.tables e below (s₁.setTop (mkF m 4 #[rv a9_0, iv (3 : Int32), iv (3 : Int32)] [(.ref a9_0), (.int (3 : Int32))])) _
    refine st1 _ ?_
    show Steps p.tables e below (T1.setTop (mkF m 7 #[rv a9_0, iv (3 : Int32), iv (3 : Int32)] [(.int (3 : Int32)), (.int (3 : Int32))])) _
    refine XS.icmpYes X1.here hx rfl (pc0 := 7) (pc' := 31) rfl (hb hby d9_7) rfl (flt (by decide : ¬ ((3 : Int32) < (3 : Int32)))).2.1 (by decide) (by decide) ?_
    show Steps p.tables e below (T1.setTop (mkF m 31 #[rv a9_0, iv (3 : Int32), iv (3 : Int32)] [])) _
    exact X1.returnOut hx Bd.returns (hb hby d9_31) hr
  · show Q_rm_in3_3 Z _ _ _ _ _ _ h0 n0 _ T1.heap _
    rw [e1]
    exact ⟨rfl, N0, (Keep.refl h0 [ar]), pf_X_ar⟩
theorem ef_rm_in4_0 (m : MethodId) (x0 : Addr) (x1 : Int32) : entryFrame m #[(.ref x0), (.int x1)] 3 = mkF m 0 #[rv x0, iv x1, .unset] [] := by first | (simp [entryFrame, mkF, argsToLocals, Value.category]; done) | rfl
def Q_rm_in4_0 (Z : State) (a9_0 : Addr) (ar : Addr) (ln : Int32) (x0 : Int32) (x1 : Int32) (x2 : Int32) (x3 : Int32) (h0 : Heap) (n0 : Nat) (v : Option Value) (h : Heap) (L : List Loc) : Prop := v = none ∧ Fr n0 L ∧ Keep h0 h [ar] ∧ (Px Z h ar .byte ln [(.int (nar .byte ((x0 ^^^ (-1 : Int32)).toInt8.toInt32))), (.int (nar .byte ((x1 ^^^ (-1 : Int32)).toInt8.toInt32))), (.int (nar .byte ((x2 ^^^ (-1 : Int32)).toInt8.toInt32))), (.int (nar .byte ((x3 ^^^ (-1 : Int32)).toInt8.toInt32)))])
set_option maxRecDepth 65536 in
set_option maxHeartbeats 40000000 in
theorem rm_in4_0 (l : Launch) (Z : State) (a0 : Array Value) (hw : ∀ d ∈ tables_1, d.before a0 Z = true) (ws : List Jvm.Cond) (a9_0 : Addr) (ar : Addr) (ln : Int32) (x0 : Int32) (x1 : Int32) (x2 : Int32) (x3 : Int32) (h0 : Heap) (n0 : Nat) (Z0 : n0 ≤ h0.size) (pf_G_ar : n0 ≤ ar) (pf_NE_a9_0_ar : a9_0 ≠ ar) (pf_F_a9_0_bytes : Fld Z h0 a9_0 "com/example/dido/dido/keys/KeyWriter" "bytes" "[B" (.ref ar)) (pf_F_a9_0_size : Fld Z h0 a9_0 "com/example/dido/dido/keys/KeyWriter" "size" "I" (.int (4 : Int32))) (pf_X_ar : Px Z h0 ar .byte ln [(.int x0), (.int x1), (.int x2), (.int x3)]) (hle : (4 : Int32).toInt ≤ ln.toInt) :
    MetFree l (⟨"com/example/dido/dido/keys/KeyWriter", "invert", "(I)V"⟩ : MethodName) (head1 (Jvm.Cond.code (⟨"com/example/dido/dido/keys/KeyWriter", "invert", "(I)V"⟩ : MethodName) prog_15_method_11_code 3 none :: ws) ({ frames := 0, cells := 0, slots := 0, locals := 0 } : Room)) (fun a U => a = #[(.ref a9_0), (.int (0 : Int32))] ∧ Z.Warmed39 U.vm ∧ U.heap = h0) (fun _ _ _ _ _ => True) (fun _ U o U' => ∃ v L, o = .returned v ∧ Q_rm_in4_0 Z a9_0 ar ln x0 x1 x2 x3 h0 n0 v U'.heap L ∧ FrameEnd U o U' L ({ frames := 0, cells := 0, slots := 0, locals := 0 } : Room).cells ({ frames := 0, cells := 0, slots := 0, locals := 0 } : Room).slots) := by
  refine MetFree.of_bodySF (plainFor_of_name pn_com_example_dido_dido_keys_KeyWriter) hisR ?_
  intro p e s m args below meth c s₁ Bd hml0 hP hK
  obtain ⟨rfl, hZ, hh⟩ := hP
  have hx := Bd.exec
  have hby := Bd.bytes
  have hml : c.maxLocals = 3 := hml0
  have hown : s.vm.findClass "com/example/dido/dido/keys/KeyWriter" = some m.cls := findClass_of_methodNamed Bd.named
  have hnm := (name_of_methodNamed Bd.named Bd.method).1
  have X0 : Stand p l e ({ frames := 0, cells := 0, slots := 0, locals := 0 } : Room) s m #[(.ref a9_0), (.int (0 : Int32))] below meth c s₁ [] 0 0 := Stand.of_body Bd
  have e0 : s₁.heap = h0 := by rw [← hh, Bd.state]; rfl
  have N0 := Fr.nil n0
  have pre0 : ∀ t, Steps p.tables e below (s₁.setTop (mkF m 0 #[rv a9_0, iv (0 : Int32), .unset] [])) t → Steps p.tables e below (s₁.setTop (entryFrame m #[(.ref a9_0), (.int (0 : Int32))] 3)) t := fun t k => castTop (ef_rm_in4_0 m a9_0 (0 : Int32)) k
  have wo16 := hw _ (List.mem_of_getElem? (i := 16) rfl)
  have wo27 := hw _ (List.mem_of_getElem? (i := 27) rfl)
  obtain ⟨T1, X1, e1, st1⟩ := getF X0 hx hZ hown (host := "") (Or.inl wo27) Via.refl e0 pf_F_a9_0_size (g := (mkF m 4 #[rv a9_0, iv (0 : Int32), iv (0 : Int32)] [(.ref a9_0), (.int (0 : Int32))])) rfl rfl (hb hby d9_4)
  obtain ⟨T2, X2, e2, st2⟩ := getF X1 hx hZ hown (host := "") (Or.inl wo16) Via.refl e1 pf_F_a9_0_bytes (g := (mkF m 11 #[rv a9_0, iv (0 : Int32), iv (0 : Int32)] [(.ref a9_0)])) rfl rfl (hb hby d9_11)
  obtain ⟨T3, X3, e3, st3⟩ := getF X2 hx hZ hown (host := "") (Or.inl wo16) Via.refl e2 pf_F_a9_0_bytes (g := (mkF m 16 #[rv a9_0, iv (0 : Int32), iv (0 : Int32)] [(.ref a9_0), (.int (0 : Int32)), (.ref ar)])) rfl rfl (hb hby d9_16)
  obtain ⟨re4, kk4, cl4, Ar4, qq4, Sz4, Nn4, Hs4, Gf4⟩ := id pf_X_ar
  have hin5 : ¬ ((0 : Int32) < 0 ∨ cl4.slots.size ≤ ((0 : Int32)).toNatClampNeg) := inb_of Sz4 (own_idx _ (4 : Int32) _ hle (by decide) (by decide))
  have hat6 : cl4.slots[((0 : Int32)).toNatClampNeg]? = some (.int x0) := Has.at Hs4 hin5 rfl
  obtain ⟨re7, kk7, cl7, Ar7, qq7, Sz7, Nn7, Hs7, Gf7⟩ := id pf_X_ar
  have hin8 : ¬ ((0 : Int32) < 0 ∨ cl7.slots.size ≤ ((0 : Int32)).toNatClampNeg) := inb_of Sz7 (own_idx _ (4 : Int32) _ hle (by decide) (by decide))
  obtain ⟨T9, h9, X9, e9, W9, st9⟩ := stB X3 hx hZ e3 Ar7 (j := (0 : Int32)) hin8 (g := (mkF m 24 #[rv a9_0, iv (0 : Int32), iv (0 : Int32)] [(.int ((x0 ^^^ (-1 : Int32)).toInt8.toInt32)), (.int (0 : Int32)), (.ref ar)])) rfl rfl (hb hby d9_24)
  have K10 : Keep h0 h9 [ar] := (Keep.refl h0 [ar]).wr W9 (Or.inl (List.mem_of_getElem? (i := 0) rfl))
  have f11 : Px Z h9 ar .byte ln [(.int (nar .byte ((x0 ^^^ (-1 : Int32)).toInt8.toInt32))), (.int x1), (.int x2), (.int x3)] := ⟨_, _, Arv.set Ar7 qq7 Sz7 Nn7 Hs7 Gf7 (by first | rfl | exact fits_nar_byte _) W9 0 rfl (by simp only [List.length_append, List.length_cons, List.length_nil]; omega)⟩
  have N12 := Fr.snoc X9 N0 pf_G_ar
  have f13 := (pf_F_a9_0_size.other W9 (Or.inl pf_NE_a9_0_ar))
  obtain ⟨T14, X14, e14, st14⟩ := getF X9 hx hZ hown (host := "") (Or.inl wo27) Via.refl e9 f13 (g := (mkF m 4 #[rv a9_0, iv (0 : Int32), iv (1 : Int32)] [(.ref a9_0), (.int (1 : Int32))])) rfl rfl (hb hby d9_4)
  have f15 := (pf_F_a9_0_bytes.other W9 (Or.inl pf_NE_a9_0_ar))
  obtain ⟨T16, X16, e16, st16⟩ := getF X14 hx hZ hown (host := "") (Or.inl wo16) Via.refl e14 f15 (g := (mkF m 11 #[rv a9_0, iv (0 : Int32), iv (1 : Int32)] [(.ref a9_0)])) rfl rfl (hb hby d9_11)
  obtain ⟨T17, X17, e17, st17⟩ := getF X16 hx hZ hown (host := "") (Or.inl wo16) Via.refl e16 f15 (g := (mkF m 16 #[rv a9_0, iv (0 : Int32), iv (1 : Int32)] [(.ref a9_0), (.int (1 : Int32)), (.ref ar)])) rfl rfl (hb hby d9_16)
  obtain ⟨re18, kk18, cl18, Ar18, qq18, Sz18, Nn18, Hs18, Gf18⟩ := id f11
  have hin19 : ¬ ((1 : Int32) < 0 ∨ cl18.slots.size ≤ ((1 : Int32)).toNatClampNeg) := inb_of Sz18 (own_idx _ (4 : Int32) _ hle (by decide) (by decide))
  have hat20 : cl18.slots[((1 : Int32)).toNatClampNeg]? = some (.int x1) := Has.at Hs18 hin19 rfl
  obtain ⟨re21, kk21, cl21, Ar21, qq21, Sz21, Nn21, Hs21, Gf21⟩ := id f11
  have hin22 : ¬ ((1 : Int32) < 0 ∨ cl21.slots.size ≤ ((1 : Int32)).toNatClampNeg) := inb_of Sz21 (own_idx _ (4 : Int32) _ hle (by decide) (by decide))
  obtain ⟨T23, h23, X23, e23, W23, st23⟩ := stB X17 hx hZ e17 Ar21 (j := (1 : Int32)) hin22 (g := (mkF m 24 #[rv a9_0, iv (0 : Int32), iv (1 : Int32)] [(.int ((x1 ^^^ (-1 : Int32)).toInt8.toInt32)), (.int (1 : Int32)), (.ref ar)])) rfl rfl (hb hby d9_24)
  have K24 : Keep h0 h23 [ar] := (K10).wr W23 (Or.inl (List.mem_of_getElem? (i := 0) rfl))
  have f25 : Px Z h23 ar .byte ln [(.int (nar .byte ((x0 ^^^ (-1 : Int32)).toInt8.toInt32))), (.int (nar .byte ((x1 ^^^ (-1 : Int32)).toInt8.toInt32))), (.int x2), (.int x3)] := ⟨_, _, Arv.set Ar21 qq21 Sz21 Nn21 Hs21 Gf21 (by first | rfl | exact fits_nar_byte _) W23 1 rfl (by simp only [List.length_append, List.length_cons, List.length_nil]; omega)⟩
  have N26 := Fr.snoc X23 N12 pf_G_ar
  have f27 := (f13.other W23 (Or.inl pf_NE_a9_0_ar))
  obtain ⟨T28, X28, e28, st28⟩ := getF X23 hx hZ hown (host := "") (Or.inl wo27) Via.refl e23 f27 (g := (mkF m 4 #[rv a9_0, iv (0 : Int32), iv (2 : Int32)] [(.ref a9_0), (.int (2 : Int32))])) rfl rfl (hb hby d9_4)
  have f29 := (f15.other W23 (Or.inl pf_NE_a9_0_ar))
  obtain ⟨T30, X30, e30, st30⟩ := getF X28 hx hZ hown (host := "") (Or.inl wo16) Via.refl e28 f29 (g := (mkF m 11 #[rv a9_0, iv (0 : Int32), iv (2 : Int32)] [(.ref a9_0)])) rfl rfl (hb hby d9_11)
  obtain ⟨T31, X31, e31, st31⟩ := getF X30 hx hZ hown (host := "") (Or.inl wo16) Via.refl e30 f29 (g := (mkF m 16 #[rv a9_0, iv (0 : Int32), iv (2 : Int32)] [(.ref a9_0), (.int (2 : Int32)), (.ref ar)])) rfl rfl (hb hby d9_16)
  obtain ⟨re32, kk32, cl32, Ar32, qq32, Sz32, Nn32, Hs32, Gf32⟩ := id f25
  have hin33 : ¬ ((2 : Int32) < 0 ∨ cl32.slots.size ≤ ((2 : Int32)).toNatClampNeg) := inb_of Sz32 (own_idx _ (4 : Int32) _ hle (by decide) (by decide))
  have hat34 : cl32.slots[((2 : Int32)).toNatClampNeg]? = some (.int x2) := Has.at Hs32 hin33 rfl
  obtain ⟨re35, kk35, cl35, Ar35, qq35, Sz35, Nn35, Hs35, Gf35⟩ := id f25
  have hin36 : ¬ ((2 : Int32) < 0 ∨ cl35.slots.size ≤ ((2 : Int32)).toNatClampNeg) := inb_of Sz35 (own_idx _ (4 : Int32) _ hle (by decide) (by decide))
  obtain ⟨T37, h37, X37, e37, W37, st37⟩ := stB X31 hx hZ e31 Ar35 (j := (2 : Int32)) hin36 (g := (mkF m 24 #[rv a9_0, iv (0 : Int32), iv (2 : Int32)] [(.int ((x2 ^^^ (-1 : Int32)).toInt8.toInt32)), (.int (2 : Int32)), (.ref ar)])) rfl rfl (hb hby d9_24)
  have K38 : Keep h0 h37 [ar] := (K24).wr W37 (Or.inl (List.mem_of_getElem? (i := 0) rfl))
  have f39 : Px Z h37 ar .byte ln [(.int (nar .byte ((x0 ^^^ (-1 : Int32)).toInt8.toInt32))), (.int (nar .byte ((x1 ^^^ (-1 : Int32)).toInt8.toInt32))), (.int (nar .byte ((x2 ^^^ (-1 : Int32)).toInt8.toInt32))), (.int x3)] := ⟨_, _, Arv.set Ar35 qq35 Sz35 Nn35 Hs35 Gf35 (by first | rfl | exact fits_nar_byte _) W37 2 rfl (by simp only [List.length_append, List.length_cons, List.length_nil]; omega)⟩
  have N40 := Fr.snoc X37 N26 pf_G_ar
  have f41 := (f27.other W37 (Or.inl pf_NE_a9_0_ar))
  obtain ⟨T42, X42, e42, st42⟩ := getF X37 hx hZ hown (host := "") (Or.inl wo27) Via.refl e37 f41 (g := (mkF m 4 #[rv a9_0, iv (0 : Int32), iv (3 : Int32)] [(.ref a9_0), (.int (3 : Int32))])) rfl rfl (hb hby d9_4)
  have f43 := (f29.other W37 (Or.inl pf_NE_a9_0_ar))
  obtain ⟨T44, X44, e44, st44⟩ := getF X42 hx hZ hown (host := "") (Or.inl wo16) Via.refl e42 f43 (g := (mkF m 11 #[rv a9_0, iv (0 : Int32), iv (3 : Int32)] [(.ref a9_0)])) rfl rfl (hb hby d9_11)
  obtain ⟨T45, X45, e45, st45⟩ := getF X44 hx hZ hown (host := "") (Or.inl wo16) Via.refl e44 f43 (g := (mkF m 16 #[rv a9_0, iv (0 : Int32), iv (3 : Int32)] [(.ref a9_0), (.int (3 : Int32)), (.ref ar)])) rfl rfl (hb hby d9_16)
  obtain ⟨re46, kk46, cl46, Ar46, qq46, Sz46, Nn46, Hs46, Gf46⟩ := id f39
  have hin47 : ¬ ((3 : Int32) < 0 ∨ cl46.slots.size ≤ ((3 : Int32)).toNatClampNeg) := inb_of Sz46 (own_idx _ (4 : Int32) _ hle (by decide) (by decide))
  have hat48 : cl46.slots[((3 : Int32)).toNatClampNeg]? = some (.int x3) := Has.at Hs46 hin47 rfl
  obtain ⟨re49, kk49, cl49, Ar49, qq49, Sz49, Nn49, Hs49, Gf49⟩ := id f39
  have hin50 : ¬ ((3 : Int32) < 0 ∨ cl49.slots.size ≤ ((3 : Int32)).toNatClampNeg) := inb_of Sz49 (own_idx _ (4 : Int32) _ hle (by decide) (by decide))
  obtain ⟨T51, h51, X51, e51, W51, st51⟩ := stB X45 hx hZ e45 Ar49 (j := (3 : Int32)) hin50 (g := (mkF m 24 #[rv a9_0, iv (0 : Int32), iv (3 : Int32)] [(.int ((x3 ^^^ (-1 : Int32)).toInt8.toInt32)), (.int (3 : Int32)), (.ref ar)])) rfl rfl (hb hby d9_24)
  have K52 : Keep h0 h51 [ar] := (K38).wr W51 (Or.inl (List.mem_of_getElem? (i := 0) rfl))
  have f53 : Px Z h51 ar .byte ln [(.int (nar .byte ((x0 ^^^ (-1 : Int32)).toInt8.toInt32))), (.int (nar .byte ((x1 ^^^ (-1 : Int32)).toInt8.toInt32))), (.int (nar .byte ((x2 ^^^ (-1 : Int32)).toInt8.toInt32))), (.int (nar .byte ((x3 ^^^ (-1 : Int32)).toInt8.toInt32)))] := ⟨_, _, Arv.set Ar49 qq49 Sz49 Nn49 Hs49 Gf49 (by first | rfl | exact fits_nar_byte _) W51 3 rfl (by simp only [List.length_append, List.length_cons, List.length_nil]; omega)⟩
  have N54 := Fr.snoc X51 N40 pf_G_ar
  have f55 := (f41.other W51 (Or.inl pf_NE_a9_0_ar))
  obtain ⟨T56, X56, e56, st56⟩ := getF X51 hx hZ hown (host := "") (Or.inl wo27) Via.refl e51 f55 (g := (mkF m 4 #[rv a9_0, iv (0 : Int32), iv (4 : Int32)] [(.ref a9_0), (.int (4 : Int32))])) rfl rfl (hb hby d9_4)
  obtain ⟨fs, hr, hrun, hended, hW, hsame⟩ := X56.leave (v := none) (fun _ => rfl)
  refine ⟨_, _, pre0 _ ?_, hrun, hended, _, _, rfl, ?_, ⟨_, rfl⟩, hW, hsame.mono (by decide) (by decide)⟩
  · show Steps p.tables e below (s₁.setTop (mkF m 0 #[rv a9_0, iv (0 : Int32), .unset] [])) _
    refine XS.iloadN X0.here hx rfl (hb hby d9_0) rfl ?_
    show Steps p.tables e below (s₁.setTop (mkF m 1 #[rv a9_0, iv (0 : Int32), .unset] [(.int (0 : Int32))])) _
    refine XS.istoreN X0.here hx rfl (hb hby d9_1) rfl (l' := #[rv a9_0, iv (0 : Int32), iv (0 : Int32)]) rfl ?_
    refine XS.iloadN X0.here hx rfl (hb hby d9_2) rfl ?_
    refine XS.aloadN X0.here hx rfl (hb hby d9_3) rfl rfl ?_
    show Steps p.tables e below (s₁.setTop (mkF m 4 #[rv a9_0, iv (0 : Int32), iv (0 : Int32)] [(.ref a9_0), (.int (0 : Int32))])) _
    refine st1 _ ?_
    show Steps p.tables e below (T1.setTop (mkF m 7 #[rv a9_0, iv (0 : Int32), iv (0 : Int32)] [(.int (4 : Int32)), (.int (0 : Int32))])) _
    refine XS.icmpNo X1.here hx rfl (hb hby d9_7) rfl (tlt (by decide : (0 : Int32) < (4 : Int32))).2.1 ?_
    refine XS.aloadN X1.here hx rfl (hb hby d9_10) rfl rfl ?_
    show Steps p.tables e below (T1.setTop (mkF m 11 #[rv a9_0, iv (0 : Int32), iv (0 : Int32)] [(.ref a9_0)])) _
    refine st2 _ ?_
    show Steps p.tables e below (T2.setTop (mkF m 14 #[rv a9_0, iv (0 : Int32), iv (0 : Int32)] [(.ref ar)])) _
    refine XS.iloadN X2.here hx rfl (hb hby d9_14) rfl ?_
    show Steps p.tables e below (T2.setTop (mkF m 15 #[rv a9_0, iv (0 : Int32), iv (0 : Int32)] [(.int (0 : Int32)), (.ref ar)])) _
    refine XS.aloadN X2.here hx rfl (hb hby d9_15) rfl rfl ?_
    show Steps p.tables e below (T2.setTop (mkF m 16 #[rv a9_0, iv (0 : Int32), iv (0 : Int32)] [(.ref a9_0), (.int (0 : Int32)), (.ref ar)])) _
    refine st3 _ ?_
    show Steps p.tables e below (T3.setTop (mkF m 19 #[rv a9_0, iv (0 : Int32), iv (0 : Int32)] [(.ref ar), (.int (0 : Int32)), (.ref ar)])) _
    refine XS.iloadN X3.here hx rfl (hb hby d9_19) rfl ?_
    show Steps p.tables e below (T3.setTop (mkF m 20 #[rv a9_0, iv (0 : Int32), iv (0 : Int32)] [(.int (0 : Int32)), (.ref ar), (.int (0 : Int32)), (.ref ar)])) _
    refine X3.baloadBytes hx (j := (0 : Int32)) (v := (.int x0)) (by rw [e3]; exact Ar4.1) (State.isArrayOf_alike hZ.alike Ar4.2.1) Ar4.2.2 hin5 hat6 (g := (mkF m 20 #[rv a9_0, iv (0 : Int32), iv (0 : Int32)] [(.int (0 : Int32)), (.ref ar), (.int (0 : Int32)), (.ref ar)])) rfl rfl (hb hby d9_20) _ ?_
    show Steps p.tables e below (T3.setTop (mkF m 21 #[rv a9_0, iv (0 : Int32), iv (0 : Int32)] [(.int x0), (.int (0 : Int32)), (.ref ar)])) _
    refine XS.iconst X3.here hx rfl (hb hby d9_21) ?_
    refine XS.ixor X3.here hx rfl (hb hby d9_22) rfl ?_
    refine XS.i2b X3.here hx rfl (hb hby d9_23) rfl ?_
    show Steps p.tables e below (T3.setTop (mkF m 24 #[rv a9_0, iv (0 : Int32), iv (0 : Int32)] [(.int ((x0 ^^^ (-1 : Int32)).toInt8.toInt32)), (.int (0 : Int32)), (.ref ar)])) _
    refine st9 _ ?_
    show Steps p.tables e below (T9.setTop (mkF m 25 #[rv a9_0, iv (0 : Int32), iv (0 : Int32)] [])) _
    refine XS.iinc X9.here hx rfl (hb hby d9_25) rfl (l' := #[rv a9_0, iv (0 : Int32), iv (1 : Int32)]) rfl ?_
    refine XS.goto X9.here hx rfl (pc0 := 28) (pc' := 2) rfl (hb hby d9_28) (by decide) (by decide) ?_
    refine XS.iloadN X9.here hx rfl (hb hby d9_2) rfl ?_
    refine XS.aloadN X9.here hx rfl (hb hby d9_3) rfl rfl ?_
    show Steps p.tables e below (T9.setTop (mkF m 4 #[rv a9_0, iv (0 : Int32), iv (1 : Int32)] [(.ref a9_0), (.int (1 : Int32))])) _
    refine st14 _ ?_
    show Steps p.tables e below (T14.setTop (mkF m 7 #[rv a9_0, iv (0 : Int32), iv (1 : Int32)] [(.int (4 : Int32)), (.int (1 : Int32))])) _
    refine XS.icmpNo X14.here hx rfl (hb hby d9_7) rfl (tlt (by decide : (1 : Int32) < (4 : Int32))).2.1 ?_
    refine XS.aloadN X14.here hx rfl (hb hby d9_10) rfl rfl ?_
    show Steps p.tables e below (T14.setTop (mkF m 11 #[rv a9_0, iv (0 : Int32), iv (1 : Int32)] [(.ref a9_0)])) _
    refine st16 _ ?_
    show Steps p.tables e below (T16.setTop (mkF m 14 #[rv a9_0, iv (0 : Int32), iv (1 : Int32)] [(.ref ar)])) _
    refine XS.iloadN X16.here hx rfl (hb hby d9_14) rfl ?_
    refine XS.aloadN X16.here hx rfl (hb hby d9_15) rfl rfl ?_
    show Steps p.tables e below (T16.setTop (mkF m 16 #[rv a9_0, iv (0 : Int32), iv (1 : Int32)] [(.ref a9_0), (.int (1 : Int32)), (.ref ar)])) _
    refine st17 _ ?_
    show Steps p.tables e below (T17.setTop (mkF m 19 #[rv a9_0, iv (0 : Int32), iv (1 : Int32)] [(.ref ar), (.int (1 : Int32)), (.ref ar)])) _
    refine XS.iloadN X17.here hx rfl (hb hby d9_19) rfl ?_
    show Steps p.tables e below (T17.setTop (mkF m 20 #[rv a9_0, iv (0 : Int32), iv (1 : Int32)] [(.int (1 : Int32)), (.ref ar), (.int (1 : Int32)), (.ref ar)])) _
    refine X17.baloadBytes hx (j := (1 : Int32)) (v := (.int x1)) (by rw [e17]; exact Ar18.1) (State.isArrayOf_alike hZ.alike Ar18.2.1) Ar18.2.2 hin19 hat20 (g := (mkF m 20 #[rv a9_0, iv (0 : Int32), iv (1 : Int32)] [(.int (1 : Int32)), (.ref ar), (.int (1 : Int32)), (.ref ar)])) rfl rfl (hb hby d9_20) _ ?_
    show Steps p.tables e below (T17.setTop (mkF m 21 #[rv a9_0, iv (0 : Int32), iv (1 : Int32)] [(.int x1), (.int (1 : Int32)), (.ref ar)])) _
    refine XS.iconst X17.here hx rfl (hb hby d9_21) ?_
    refine XS.ixor X17.here hx rfl (hb hby d9_22) rfl ?_
    refine XS.i2b X17.here hx rfl (hb hby d9_23) rfl ?_
    show Steps p.tables e below (T17.setTop (mkF m 24 #[rv a9_0, iv (0 : Int32), iv (1 : Int32)] [(.int ((x1 ^^^ (-1 : Int32)).toInt8.toInt32)), (.int (1 : Int32)), (.ref ar)])) _
    refine st23 _ ?_
    show Steps p.tables e below (T23.setTop (mkF m 25 #[rv a9_0, iv (0 : Int32), iv (1 : Int32)] [])) _
    refine XS.iinc X23.here hx rfl (hb hby d9_25) rfl (l' := #[rv a9_0, iv (0 : Int32), iv (2 : Int32)]) rfl ?_
    refine XS.goto X23.here hx rfl (pc0 := 28) (pc' := 2) rfl (hb hby d9_28) (by decide) (by decide) ?_
    refine XS.iloadN X23.here hx rfl (hb hby d9_2) rfl ?_
    show Steps p.tables e below (T23.setTop (mkF m 3 #[rv a9_0, iv (0 : Int32), iv (2 : Int32)] [(.int (2 : Int32))])) _
    refine XS.aloadN X23.here hx rfl (hb hby d9_3) rfl rfl ?_
    show Steps p.tables e below (T23.setTop (mkF m 4 #[rv a9_0, iv (0 : Int32), iv (2 : Int32)] [(.ref a9_0), (.int (2 : Int32))])) _
    refine st28 _ ?_
    show Steps p.tables e below (T28.setTop (mkF m 7 #[rv a9_0, iv (0 : Int32), iv (2 : Int32)] [(.int (4 : Int32)), (.int (2 : Int32))])) _
    refine XS.icmpNo X28.here hx rfl (hb hby d9_7) rfl (tlt (by decide : (2 : Int32) < (4 : Int32))).2.1 ?_
    refine XS.aloadN X28.here hx rfl (hb hby d9_10) rfl rfl ?_
    show Steps p.tables e below (T28.setTop (mkF m 11 #[rv a9_0, iv (0 : Int32), iv (2 : Int32)] [(.ref a9_0)])) _
    refine st30 _ ?_
    show Steps p.tables e below (T30.setTop (mkF m 14 #[rv a9_0, iv (0 : Int32), iv (2 : Int32)] [(.ref ar)])) _
    refine XS.iloadN X30.here hx rfl (hb hby d9_14) rfl ?_
    refine XS.aloadN X30.here hx rfl (hb hby d9_15) rfl rfl ?_
    show Steps p.tables e below (T30.setTop (mkF m 16 #[rv a9_0, iv (0 : Int32), iv (2 : Int32)] [(.ref a9_0), (.int (2 : Int32)), (.ref ar)])) _
    refine st31 _ ?_
    show Steps p.tables e below (T31.setTop (mkF m 19 #[rv a9_0, iv (0 : Int32), iv (2 : Int32)] [(.ref ar), (.int (2 : Int32)), (.ref ar)])) _
    refine XS.iloadN X31.here hx rfl (hb hby d9_19) rfl ?_
    show Steps p.tables e below (T31.setTop (mkF m 20 #[rv a9_0, iv (0 : Int32), iv (2 : Int32)] [(.int (2 : Int32)), (.ref ar), (.int (2 : Int32)), (.ref ar)])) _
    refine X31.baloadBytes hx (j := (2 : Int32)) (v := (.int x2)) (by rw [e31]; exact Ar32.1) (State.isArrayOf_alike hZ.alike Ar32.2.1) Ar32.2.2 hin33 hat34 (g := (mkF m 20 #[rv a9_0, iv (0 : Int32), iv (2 : Int32)] [(.int (2 : Int32)), (.ref ar), (.int (2 : Int32)), (.ref ar)])) rfl rfl (hb hby d9_20) _ ?_
    show Steps p.tables e below (T31.setTop (mkF m 21 #[rv a9_0, iv (0 : Int32), iv (2 : Int32)] [(.int x2), (.int (2 : Int32)), (.ref ar)])) _
    refine XS.iconst X31.here hx rfl (hb hby d9_21) ?_
    refine XS.ixor X31.here hx rfl (hb hby d9_22) rfl ?_
    show Steps p.tables e below (T31.setTop (mkF m 23 #[rv a9_0, iv (0 : Int32), iv (2 : Int32)] [(.int (x2 ^^^ (-1 : Int32))), (.int (2 : Int32)), (.ref ar)])) _
    refine XS.i2b X31.here hx rfl (hb hby d9_23) rfl ?_
    show Steps p.tables e below (T31.setTop (mkF m 24 #[rv a9_0, iv (0 : Int32), iv (2 : Int32)] [(.int ((x2 ^^^ (-1 : Int32)).toInt8.toInt32)), (.int (2 : Int32)), (.ref ar)])) _
    refine st37 _ ?_
    show Steps p.tables e below (T37.setTop (mkF m 25 #[rv a9_0, iv (0 : Int32), iv (2 : Int32)] [])) _
    refine XS.iinc X37.here hx rfl (hb hby d9_25) rfl (l' := #[rv a9_0, iv (0 : Int32), iv (3 : Int32)]) rfl ?_
    refine XS.goto X37.here hx rfl (pc0 := 28) (pc' := 2) rfl (hb hby d9_28) (by decide) (by decide) ?_
    show Steps p.tables e below (T37.setTop (mkF m 2 #[rv a9_0, iv (0 : Int32), iv (3 : Int32)] [])) _
    refine XS.iloadN X37.here hx rfl (hb hby d9_2) rfl ?_
    refine XS.aloadN X37.here hx rfl (hb hby d9_3) rfl rfl ?_
    show Steps p.tables e below (T37.setTop (mkF m 4 #[rv a9_0, iv (0 : Int32), iv (3 : Int32)] [(.ref a9_0), (.int (3 : Int32))])) _
    refine st42 _ ?_
    show Steps p.tables e below (T42.setTop (mkF m 7 #[rv a9_0, iv (0 : Int32), iv (3 : Int32)] [(.int (4 : Int32)), (.int (3 : Int32))])) _
    refine XS.icmpNo X42.here hx rfl (hb hby d9_7) rfl (tlt (by decide : (3 : Int32) < (4 : Int32))).2.1 ?_
    show Steps p.tables e below (T42.setTop (mkF m 10 #[rv a9_0, iv (0 : Int32), iv (3 : Int32)] [])) _
    refine XS.aloadN X42.here hx rfl (hb hby d9_10) rfl rfl ?_
    show Steps p.tables e below (T42.setTop (mkF m 11 #[rv a9_0, iv (0 : Int32), iv (3 : Int32)] [(.ref a9_0)])) _
    refine st44 _ ?_
    show Steps p.tables e below (T44.setTop (mkF m 14 #[rv a9_0, iv (0 : Int32), iv (3 : Int32)] [(.ref ar)])) _
    refine XS.iloadN X44.here hx rfl (hb hby d9_14) rfl ?_
    refine XS.aloadN X44.here hx rfl (hb hby d9_15) rfl rfl ?_
    show Steps p.tables e below (T44.setTop (mkF m 16 #[rv a9_0, iv (0 : Int32), iv (3 : Int32)] [(.ref a9_0), (.int (3 : Int32)), (.ref ar)])) _
    refine st45 _ ?_
    show Steps p.tables e below (T45.setTop (mkF m 19 #[rv a9_0, iv (0 : Int32), iv (3 : Int32)] [(.ref ar), (.int (3 : Int32)), (.ref ar)])) _
    refine XS.iloadN X45.here hx rfl (hb hby d9_19) rfl ?_
    show Steps p.tables e below (T45.setTop (mkF m 20 #[rv a9_0, iv (0 : Int32), iv (3 : Int32)] [(.int (3 : Int32)), (.ref ar), (.int (3 : Int32)), (.ref ar)])) _
    refine X45.baloadBytes hx (j := (3 : Int32)) (v := (.int x3)) (by rw [e45]; exact Ar46.1) (State.isArrayOf_alike hZ.alike Ar46.2.1) Ar46.2.2 hin47 hat48 (g := (mkF m 20 #[rv a9_0, iv (0 : Int32), iv (3 : Int32)] [(.int (3 : Int32)), (.ref ar), (.int (3 : Int32)), (.ref ar)])) rfl rfl (hb hby d9_20) _ ?_
    show Steps p.tables e below (T45.setTop (mkF m 21 #[rv a9_0, iv (0 : Int32), iv (3 : Int32)] [(.int x3), (.int (3 : Int32)), (.ref ar)])) _
    refine XS.iconst X45.here hx rfl (hb hby d9_21) ?_
    show Steps p.tables e below (T45.setTop (mkF m 22 #[rv a9_0, iv (0 : Int32), iv (3 : Int32)] [(.int (-1 : Int32)), (.int x3), (.int (3 : Int32)), (.ref ar)])) _
    refine XS.ixor X45.here hx rfl (hb hby d9_22) rfl ?_
    refine XS.i2b X45.here hx rfl (hb hby d9_23) rfl ?_
    show Steps p.tables e below (T45.setTop (mkF m 24 #[rv a9_0, iv (0 : Int32), iv (3 : Int32)] [(.int ((x3 ^^^ (-1 : Int32)).toInt8.toInt32)), (.int (3 : Int32)), (.ref ar)])) _
    refine st51 _ ?_
    show Steps p.tables e below (T51.setTop (mkF m 25 #[rv a9_0, iv (0 : Int32), iv (3 : Int32)] [])) _
    refine XS.iinc X51.here hx rfl (hb hby d9_25) rfl (l' := #[rv a9_0, iv (0 : Int32), iv (4 : Int32)]) rfl ?_
    show Steps p.tables e below (T51.setTop (mkF m 28 #[rv a9_0, iv (0 : Int32), iv (4 : Int32)] [])) _
    refine XS.goto X51.here hx rfl (pc0 := 28) (pc' := 2) rfl (hb hby d9_28) (by decide) (by decide) ?_
    refine XS.iloadN X51.here hx rfl (hb hby d9_2) rfl ?_
    refine XS.aloadN X51.here hx rfl (hb hby d9_3) rfl rfl ?_
    show Steps p.tables e below (T51.setTop (mkF m 4 #[rv a9_0, iv (0 : Int32), iv (4 : Int32)] [(.ref a9_0), (.int (4 : Int32))])) _
    refine st56 _ ?_
    show Steps p.tables e below (T56.setTop (mkF m 7 #[rv a9_0, iv (0 : Int32), iv (4 : Int32)] [(.int (4 : Int32)), (.int (4 : Int32))])) _
    refine XS.icmpYes X56.here hx rfl (pc0 := 7) (pc' := 31) rfl (hb hby d9_7) rfl (flt (by decide : ¬ ((4 : Int32) < (4 : Int32)))).2.1 (by decide) (by decide) ?_
    show Steps p.tables e below (T56.setTop (mkF m 31 #[rv a9_0, iv (0 : Int32), iv (4 : Int32)] [])) _
    exact X56.returnOut hx Bd.returns (hb hby d9_31) hr
  · show Q_rm_in4_0 Z _ _ _ _ _ _ _ h0 n0 _ T56.heap _
    rw [e56]
    exact ⟨rfl, N54, (K52), f53⟩
theorem ef_rm_in4_1 (m : MethodId) (x0 : Addr) (x1 : Int32) : entryFrame m #[(.ref x0), (.int x1)] 3 = mkF m 0 #[rv x0, iv x1, .unset] [] := by first | (simp [entryFrame, mkF, argsToLocals, Value.category]; done) | rfl
def Q_rm_in4_1 (Z : State) (a9_0 : Addr) (ar : Addr) (ln : Int32) (x0 : Int32) (x1 : Int32) (x2 : Int32) (x3 : Int32) (h0 : Heap) (n0 : Nat) (v : Option Value) (h : Heap) (L : List Loc) : Prop := v = none ∧ Fr n0 L ∧ Keep h0 h [ar] ∧ (Px Z h ar .byte ln [(.int x0), (.int (nar .byte ((x1 ^^^ (-1 : Int32)).toInt8.toInt32))), (.int (nar .byte ((x2 ^^^ (-1 : Int32)).toInt8.toInt32))), (.int (nar .byte ((x3 ^^^ (-1 : Int32)).toInt8.toInt32)))])
set_option maxRecDepth 65536 in
set_option maxHeartbeats 40000000 in
theorem rm_in4_1 (l : Launch) (Z : State) (a0 : Array Value) (hw : ∀ d ∈ tables_1, d.before a0 Z = true) (ws : List Jvm.Cond) (a9_0 : Addr) (ar : Addr) (ln : Int32) (x0 : Int32) (x1 : Int32) (x2 : Int32) (x3 : Int32) (h0 : Heap) (n0 : Nat) (Z0 : n0 ≤ h0.size) (pf_G_ar : n0 ≤ ar) (pf_NE_a9_0_ar : a9_0 ≠ ar) (pf_F_a9_0_bytes : Fld Z h0 a9_0 "com/example/dido/dido/keys/KeyWriter" "bytes" "[B" (.ref ar)) (pf_F_a9_0_size : Fld Z h0 a9_0 "com/example/dido/dido/keys/KeyWriter" "size" "I" (.int (4 : Int32))) (pf_X_ar : Px Z h0 ar .byte ln [(.int x0), (.int x1), (.int x2), (.int x3)]) (hle : (4 : Int32).toInt ≤ ln.toInt) :
    MetFree l (⟨"com/example/dido/dido/keys/KeyWriter", "invert", "(I)V"⟩ : MethodName) (head1 (Jvm.Cond.code (⟨"com/example/dido/dido/keys/KeyWriter", "invert", "(I)V"⟩ : MethodName) prog_15_method_11_code 3 none :: ws) ({ frames := 0, cells := 0, slots := 0, locals := 0 } : Room)) (fun a U => a = #[(.ref a9_0), (.int (1 : Int32))] ∧ Z.Warmed39 U.vm ∧ U.heap = h0) (fun _ _ _ _ _ => True) (fun _ U o U' => ∃ v L, o = .returned v ∧ Q_rm_in4_1 Z a9_0 ar ln x0 x1 x2 x3 h0 n0 v U'.heap L ∧ FrameEnd U o U' L ({ frames := 0, cells := 0, slots := 0, locals := 0 } : Room).cells ({ frames := 0, cells := 0, slots := 0, locals := 0 } : Room).slots) := by
  refine MetFree.of_bodySF (plainFor_of_name pn_com_example_dido_dido_keys_KeyWriter) hisR ?_
  intro p e s m args below meth c s₁ Bd hml0 hP hK
  obtain ⟨rfl, hZ, hh⟩ := hP
  have hx := Bd.exec
  have hby := Bd.bytes
  have hml : c.maxLocals = 3 := hml0
  have hown : s.vm.findClass "com/example/dido/dido/keys/KeyWriter" = some m.cls := findClass_of_methodNamed Bd.named
  have hnm := (name_of_methodNamed Bd.named Bd.method).1
  have X0 : Stand p l e ({ frames := 0, cells := 0, slots := 0, locals := 0 } : Room) s m #[(.ref a9_0), (.int (1 : Int32))] below meth c s₁ [] 0 0 := Stand.of_body Bd
  have e0 : s₁.heap = h0 := by rw [← hh, Bd.state]; rfl
  have N0 := Fr.nil n0
  have pre0 : ∀ t, Steps p.tables e below (s₁.setTop (mkF m 0 #[rv a9_0, iv (1 : Int32), .unset] [])) t → Steps p.tables e below (s₁.setTop (entryFrame m #[(.ref a9_0), (.int (1 : Int32))] 3)) t := fun t k => castTop (ef_rm_in4_1 m a9_0 (1 : Int32)) k
  have wo16 := hw _ (List.mem_of_getElem? (i := 16) rfl)
  have wo27 := hw _ (List.mem_of_getElem? (i := 27) rfl)
  obtain ⟨T1, X1, e1, st1⟩ := getF X0 hx hZ hown (host := "") (Or.inl wo27) Via.refl e0 pf_F_a9_0_size (g := (mkF m 4 #[rv a9_0, iv (1 : Int32), iv (1 : Int32)] [(.ref a9_0), (.int (1 : Int32))])) rfl rfl (hb hby d9_4)
  obtain ⟨T2, X2, e2, st2⟩ := getF X1 hx hZ hown (host := "") (Or.inl wo16) Via.refl e1 pf_F_a9_0_bytes (g := (mkF m 11 #[rv a9_0, iv (1 : Int32), iv (1 : Int32)] [(.ref a9_0)])) rfl rfl (hb hby d9_11)
  obtain ⟨T3, X3, e3, st3⟩ := getF X2 hx hZ hown (host := "") (Or.inl wo16) Via.refl e2 pf_F_a9_0_bytes (g := (mkF m 16 #[rv a9_0, iv (1 : Int32), iv (1 : Int32)] [(.ref a9_0), (.int (1 : Int32)), (.ref ar)])) rfl rfl (hb hby d9_16)
  obtain ⟨re4, kk4, cl4, Ar4, qq4, Sz4, Nn4, Hs4, Gf4⟩ := id pf_X_ar
  have hin5 : ¬ ((1 : Int32) < 0 ∨ cl4.slots.size ≤ ((1 : Int32)).toNatClampNeg) := inb_of Sz4 (own_idx _ (4 : Int32) _ hle (by decide) (by decide))
  have hat6 : cl4.slots[((1 : Int32)).toNatClampNeg]? = some (.int x1) := Has.at Hs4 hin5 rfl
  obtain ⟨re7, kk7, cl7, Ar7, qq7, Sz7, Nn7, Hs7, Gf7⟩ := id pf_X_ar
  have hin8 : ¬ ((1 : Int32) < 0 ∨ cl7.slots.size ≤ ((1 : Int32)).toNatClampNeg) := inb_of Sz7 (own_idx _ (4 : Int32) _ hle (by decide) (by decide))
  obtain ⟨T9, h9, X9, e9, W9, st9⟩ := stB X3 hx hZ e3 Ar7 (j := (1 : Int32)) hin8 (g := (mkF m 24 #[rv a9_0, iv (1 : Int32), iv (1 : Int32)] [(.int ((x1 ^^^ (-1 : Int32)).toInt8.toInt32)), (.int (1 : Int32)), (.ref ar)])) rfl rfl (hb hby d9_24)
  have K10 : Keep h0 h9 [ar] := (Keep.refl h0 [ar]).wr W9 (Or.inl (List.mem_of_getElem? (i := 0) rfl))
  have f11 : Px Z h9 ar .byte ln [(.int x0), (.int (nar .byte ((x1 ^^^ (-1 : Int32)).toInt8.toInt32))), (.int x2), (.int x3)] := ⟨_, _, Arv.set Ar7 qq7 Sz7 Nn7 Hs7 Gf7 (by first | rfl | exact fits_nar_byte _) W9 1 rfl (by simp only [List.length_append, List.length_cons, List.length_nil]; omega)⟩
  have N12 := Fr.snoc X9 N0 pf_G_ar
  have f13 := (pf_F_a9_0_size.other W9 (Or.inl pf_NE_a9_0_ar))
  obtain ⟨T14, X14, e14, st14⟩ := getF X9 hx hZ hown (host := "") (Or.inl wo27) Via.refl e9 f13 (g := (mkF m 4 #[rv a9_0, iv (1 : Int32), iv (2 : Int32)] [(.ref a9_0), (.int (2 : Int32))])) rfl rfl (hb hby d9_4)
  have f15 := (pf_F_a9_0_bytes.other W9 (Or.inl pf_NE_a9_0_ar))
  obtain ⟨T16, X16, e16, st16⟩ := getF X14 hx hZ hown (host := "") (Or.inl wo16) Via.refl e14 f15 (g := (mkF m 11 #[rv a9_0, iv (1 : Int32), iv (2 : Int32)] [(.ref a9_0)])) rfl rfl (hb hby d9_11)
  obtain ⟨T17, X17, e17, st17⟩ := getF X16 hx hZ hown (host := "") (Or.inl wo16) Via.refl e16 f15 (g := (mkF m 16 #[rv a9_0, iv (1 : Int32), iv (2 : Int32)] [(.ref a9_0), (.int (2 : Int32)), (.ref ar)])) rfl rfl (hb hby d9_16)
  obtain ⟨re18, kk18, cl18, Ar18, qq18, Sz18, Nn18, Hs18, Gf18⟩ := id f11
  have hin19 : ¬ ((2 : Int32) < 0 ∨ cl18.slots.size ≤ ((2 : Int32)).toNatClampNeg) := inb_of Sz18 (own_idx _ (4 : Int32) _ hle (by decide) (by decide))
  have hat20 : cl18.slots[((2 : Int32)).toNatClampNeg]? = some (.int x2) := Has.at Hs18 hin19 rfl
  obtain ⟨re21, kk21, cl21, Ar21, qq21, Sz21, Nn21, Hs21, Gf21⟩ := id f11
  have hin22 : ¬ ((2 : Int32) < 0 ∨ cl21.slots.size ≤ ((2 : Int32)).toNatClampNeg) := inb_of Sz21 (own_idx _ (4 : Int32) _ hle (by decide) (by decide))
  obtain ⟨T23, h23, X23, e23, W23, st23⟩ := stB X17 hx hZ e17 Ar21 (j := (2 : Int32)) hin22 (g := (mkF m 24 #[rv a9_0, iv (1 : Int32), iv (2 : Int32)] [(.int ((x2 ^^^ (-1 : Int32)).toInt8.toInt32)), (.int (2 : Int32)), (.ref ar)])) rfl rfl (hb hby d9_24)
  have K24 : Keep h0 h23 [ar] := (K10).wr W23 (Or.inl (List.mem_of_getElem? (i := 0) rfl))
  have f25 : Px Z h23 ar .byte ln [(.int x0), (.int (nar .byte ((x1 ^^^ (-1 : Int32)).toInt8.toInt32))), (.int (nar .byte ((x2 ^^^ (-1 : Int32)).toInt8.toInt32))), (.int x3)] := ⟨_, _, Arv.set Ar21 qq21 Sz21 Nn21 Hs21 Gf21 (by first | rfl | exact fits_nar_byte _) W23 2 rfl (by simp only [List.length_append, List.length_cons, List.length_nil]; omega)⟩
  have N26 := Fr.snoc X23 N12 pf_G_ar
  have f27 := (f13.other W23 (Or.inl pf_NE_a9_0_ar))
  obtain ⟨T28, X28, e28, st28⟩ := getF X23 hx hZ hown (host := "") (Or.inl wo27) Via.refl e23 f27 (g := (mkF m 4 #[rv a9_0, iv (1 : Int32), iv (3 : Int32)] [(.ref a9_0), (.int (3 : Int32))])) rfl rfl (hb hby d9_4)
  have f29 := (f15.other W23 (Or.inl pf_NE_a9_0_ar))
  obtain ⟨T30, X30, e30, st30⟩ := getF X28 hx hZ hown (host := "") (Or.inl wo16) Via.refl e28 f29 (g := (mkF m 11 #[rv a9_0, iv (1 : Int32), iv (3 : Int32)] [(.ref a9_0)])) rfl rfl (hb hby d9_11)
  obtain ⟨T31, X31, e31, st31⟩ := getF X30 hx hZ hown (host := "") (Or.inl wo16) Via.refl e30 f29 (g := (mkF m 16 #[rv a9_0, iv (1 : Int32), iv (3 : Int32)] [(.ref a9_0), (.int (3 : Int32)), (.ref ar)])) rfl rfl (hb hby d9_16)
  obtain ⟨re32, kk32, cl32, Ar32, qq32, Sz32, Nn32, Hs32, Gf32⟩ := id f25
  have hin33 : ¬ ((3 : Int32) < 0 ∨ cl32.slots.size ≤ ((3 : Int32)).toNatClampNeg) := inb_of Sz32 (own_idx _ (4 : Int32) _ hle (by decide) (by decide))
  have hat34 : cl32.slots[((3 : Int32)).toNatClampNeg]? = some (.int x3) := Has.at Hs32 hin33 rfl
  obtain ⟨re35, kk35, cl35, Ar35, qq35, Sz35, Nn35, Hs35, Gf35⟩ := id f25
  have hin36 : ¬ ((3 : Int32) < 0 ∨ cl35.slots.size ≤ ((3 : Int32)).toNatClampNeg) := inb_of Sz35 (own_idx _ (4 : Int32) _ hle (by decide) (by decide))
  obtain ⟨T37, h37, X37, e37, W37, st37⟩ := stB X31 hx hZ e31 Ar35 (j := (3 : Int32)) hin36 (g := (mkF m 24 #[rv a9_0, iv (1 : Int32), iv (3 : Int32)] [(.int ((x3 ^^^ (-1 : Int32)).toInt8.toInt32)), (.int (3 : Int32)), (.ref ar)])) rfl rfl (hb hby d9_24)
  have K38 : Keep h0 h37 [ar] := (K24).wr W37 (Or.inl (List.mem_of_getElem? (i := 0) rfl))
  have f39 : Px Z h37 ar .byte ln [(.int x0), (.int (nar .byte ((x1 ^^^ (-1 : Int32)).toInt8.toInt32))), (.int (nar .byte ((x2 ^^^ (-1 : Int32)).toInt8.toInt32))), (.int (nar .byte ((x3 ^^^ (-1 : Int32)).toInt8.toInt32)))] := ⟨_, _, Arv.set Ar35 qq35 Sz35 Nn35 Hs35 Gf35 (by first | rfl | exact fits_nar_byte _) W37 3 rfl (by simp only [List.length_append, List.length_cons, List.length_nil]; omega)⟩
  have N40 := Fr.snoc X37 N26 pf_G_ar
  have f41 := (f27.other W37 (Or.inl pf_NE_a9_0_ar))
  obtain ⟨T42, X42, e42, st42⟩ := getF X37 hx hZ hown (host := "") (Or.inl wo27) Via.refl e37 f41 (g := (mkF m 4 #[rv a9_0, iv (1 : Int32), iv (4 : Int32)] [(.ref a9_0), (.int (4 : Int32))])) rfl rfl (hb hby d9_4)
  obtain ⟨fs, hr, hrun, hended, hW, hsame⟩ := X42.leave (v := none) (fun _ => rfl)
  refine ⟨_, _, pre0 _ ?_, hrun, hended, _, _, rfl, ?_, ⟨_, rfl⟩, hW, hsame.mono (by decide) (by decide)⟩
  · show Steps p.tables e below (s₁.setTop (mkF m 0 #[rv a9_0, iv (1 : Int32), .unset] [])) _
    refine XS.iloadN X0.here hx rfl (hb hby d9_0) rfl ?_
    show Steps p.tables e below (s₁.setTop (mkF m 1 #[rv a9_0, iv (1 : Int32), .unset] [(.int (1 : Int32))])) _
    refine XS.istoreN X0.here hx rfl (hb hby d9_1) rfl (l' := #[rv a9_0, iv (1 : Int32), iv (1 : Int32)]) rfl ?_
    refine XS.iloadN X0.here hx rfl (hb hby d9_2) rfl ?_
    refine XS.aloadN X0.here hx rfl (hb hby d9_3) rfl rfl ?_
    show Steps p.tables e below (s₁.setTop (mkF m 4 #[rv a9_0, iv (1 : Int32), iv (1 : Int32)] [(.ref a9_0), (.int (1 : Int32))])) _
    refine st1 _ ?_
    show Steps p.tables e below (T1.setTop (mkF m 7 #[rv a9_0, iv (1 : Int32), iv (1 : Int32)] [(.int (4 : Int32)), (.int (1 : Int32))])) _
    refine XS.icmpNo X1.here hx rfl (hb hby d9_7) rfl (tlt (by decide : (1 : Int32) < (4 : Int32))).2.1 ?_
    refine XS.aloadN X1.here hx rfl (hb hby d9_10) rfl rfl ?_
    show Steps p.tables e below (T1.setTop (mkF m 11 #[rv a9_0, iv (1 : Int32), iv (1 : Int32)] [(.ref a9_0)])) _
    refine st2 _ ?_
    show Steps p.tables e below (T2.setTop (mkF m 14 #[rv a9_0, iv (1 : Int32), iv (1 : Int32)] [(.ref ar)])) _
    refine XS.iloadN X2.here hx rfl (hb hby d9_14) rfl ?_
    show Steps p.tables e below (T2.setTop (mkF m 15 #[rv a9_0, iv (1 : Int32), iv (1 : Int32)] [(.int (1 : Int32)), (.ref ar)])) _
    refine XS.aloadN X2.here hx rfl (hb hby d9_15) rfl rfl ?_
    show Steps p.tables e below (T2.setTop (mkF m 16 #[rv a9_0, iv (1 : Int32), iv (1 : Int32)] [(.ref a9_0), (.int (1 : Int32)), (.ref ar)])) _
    refine st3 _ ?_
    show Steps p.tables e below (T3.setTop (mkF m 19 #[rv a9_0, iv (1 : Int32), iv (1 : Int32)] [(.ref ar), (.int (1 : Int32)), (.ref ar)])) _
    refine XS.iloadN X3.here hx rfl (hb hby d9_19) rfl ?_
    show Steps p.tables e below (T3.setTop (mkF m 20 #[rv a9_0, iv (1 : Int32), iv (1 : Int32)] [(.int (1 : Int32)), (.ref ar), (.int (1 : Int32)), (.ref ar)])) _
    refine X3.baloadBytes hx (j := (1 : Int32)) (v := (.int x1)) (by rw [e3]; exact Ar4.1) (State.isArrayOf_alike hZ.alike Ar4.2.1) Ar4.2.2 hin5 hat6 (g := (mkF m 20 #[rv a9_0, iv (1 : Int32), iv (1 : Int32)] [(.int (1 : Int32)), (.ref ar), (.int (1 : Int32)), (.ref ar)])) rfl rfl (hb hby d9_20) _ ?_
    show Steps p.tables e below (T3.setTop (mkF m 21 #[rv a9_0, iv (1 : Int32), iv (1 : Int32)] [(.int x1), (.int (1 : Int32)), (.ref ar)])) _
    refine XS.iconst X3.here hx rfl (hb hby d9_21) ?_
    refine XS.ixor X3.here hx rfl (hb hby d9_22) rfl ?_
    refine XS.i2b X3.here hx rfl (hb hby d9_23) rfl ?_
    show Steps p.tables e below (T3.setTop (mkF m 24 #[rv a9_0, iv (1 : Int32), iv (1 : Int32)] [(.int ((x1 ^^^ (-1 : Int32)).toInt8.toInt32)), (.int (1 : Int32)), (.ref ar)])) _
    refine st9 _ ?_
    show Steps p.tables e below (T9.setTop (mkF m 25 #[rv a9_0, iv (1 : Int32), iv (1 : Int32)] [])) _
    refine XS.iinc X9.here hx rfl (hb hby d9_25) rfl (l' := #[rv a9_0, iv (1 : Int32), iv (2 : Int32)]) rfl ?_
    refine XS.goto X9.here hx rfl (pc0 := 28) (pc' := 2) rfl (hb hby d9_28) (by decide) (by decide) ?_
    refine XS.iloadN X9.here hx rfl (hb hby d9_2) rfl ?_
    refine XS.aloadN X9.here hx rfl (hb hby d9_3) rfl rfl ?_
    show Steps p.tables e below (T9.setTop (mkF m 4 #[rv a9_0, iv (1 : Int32), iv (2 : Int32)] [(.ref a9_0), (.int (2 : Int32))])) _
    refine st14 _ ?_
    show Steps p.tables e below (T14.setTop (mkF m 7 #[rv a9_0, iv (1 : Int32), iv (2 : Int32)] [(.int (4 : Int32)), (.int (2 : Int32))])) _
    refine XS.icmpNo X14.here hx rfl (hb hby d9_7) rfl (tlt (by decide : (2 : Int32) < (4 : Int32))).2.1 ?_
    refine XS.aloadN X14.here hx rfl (hb hby d9_10) rfl rfl ?_
    show Steps p.tables e below (T14.setTop (mkF m 11 #[rv a9_0, iv (1 : Int32), iv (2 : Int32)] [(.ref a9_0)])) _
    refine st16 _ ?_
    show Steps p.tables e below (T16.setTop (mkF m 14 #[rv a9_0, iv (1 : Int32), iv (2 : Int32)] [(.ref ar)])) _
    refine XS.iloadN X16.here hx rfl (hb hby d9_14) rfl ?_
    refine XS.aloadN X16.here hx rfl (hb hby d9_15) rfl rfl ?_
    show Steps p.tables e below (T16.setTop (mkF m 16 #[rv a9_0, iv (1 : Int32), iv (2 : Int32)] [(.ref a9_0), (.int (2 : Int32)), (.ref ar)])) _
    refine st17 _ ?_
    show Steps p.tables e below (T17.setTop (mkF m 19 #[rv a9_0, iv (1 : Int32), iv (2 : Int32)] [(.ref ar), (.int (2 : Int32)), (.ref ar)])) _
    refine XS.iloadN X17.here hx rfl (hb hby d9_19) rfl ?_
    show Steps p.tables e below (T17.setTop (mkF m 20 #[rv a9_0, iv (1 : Int32), iv (2 : Int32)] [(.int (2 : Int32)), (.ref ar), (.int (2 : Int32)), (.ref ar)])) _
    refine X17.baloadBytes hx (j := (2 : Int32)) (v := (.int x2)) (by rw [e17]; exact Ar18.1) (State.isArrayOf_alike hZ.alike Ar18.2.1) Ar18.2.2 hin19 hat20 (g := (mkF m 20 #[rv a9_0, iv (1 : Int32), iv (2 : Int32)] [(.int (2 : Int32)), (.ref ar), (.int (2 : Int32)), (.ref ar)])) rfl rfl (hb hby d9_20) _ ?_
    show Steps p.tables e below (T17.setTop (mkF m 21 #[rv a9_0, iv (1 : Int32), iv (2 : Int32)] [(.int x2), (.int (2 : Int32)), (.ref ar)])) _
    refine XS.iconst X17.here hx rfl (hb hby d9_21) ?_
    refine XS.ixor X17.here hx rfl (hb hby d9_22) rfl ?_
    refine XS.i2b X17.here hx rfl (hb hby d9_23) rfl ?_
    show Steps p.tables e below (T17.setTop (mkF m 24 #[rv a9_0, iv (1 : Int32), iv (2 : Int32)] [(.int ((x2 ^^^ (-1 : Int32)).toInt8.toInt32)), (.int (2 : Int32)), (.ref ar)])) _
    refine st23 _ ?_
    show Steps p.tables e below (T23.setTop (mkF m 25 #[rv a9_0, iv (1 : Int32), iv (2 : Int32)] [])) _
    refine XS.iinc X23.here hx rfl (hb hby d9_25) rfl (l' := #[rv a9_0, iv (1 : Int32), iv (3 : Int32)]) rfl ?_
    refine XS.goto X23.here hx rfl (pc0 := 28) (pc' := 2) rfl (hb hby d9_28) (by decide) (by decide) ?_
    refine XS.iloadN X23.here hx rfl (hb hby d9_2) rfl ?_
    show Steps p.tables e below (T23.setTop (mkF m 3 #[rv a9_0, iv (1 : Int32), iv (3 : Int32)] [(.int (3 : Int32))])) _
    refine XS.aloadN X23.here hx rfl (hb hby d9_3) rfl rfl ?_
    show Steps p.tables e below (T23.setTop (mkF m 4 #[rv a9_0, iv (1 : Int32), iv (3 : Int32)] [(.ref a9_0), (.int (3 : Int32))])) _
    refine st28 _ ?_
    show Steps p.tables e below (T28.setTop (mkF m 7 #[rv a9_0, iv (1 : Int32), iv (3 : Int32)] [(.int (4 : Int32)), (.int (3 : Int32))])) _
    refine XS.icmpNo X28.here hx rfl (hb hby d9_7) rfl (tlt (by decide : (3 : Int32) < (4 : Int32))).2.1 ?_
    refine XS.aloadN X28.here hx rfl (hb hby d9_10) rfl rfl ?_
    show Steps p.tables e below (T28.setTop (mkF m 11 #[rv a9_0, iv (1 : Int32), iv (3 : Int32)] [(.ref a9_0)])) _
    refine st30 _ ?_
    show Steps p.tables e below (T30.setTop (mkF m 14 #[rv a9_0, iv (1 : Int32), iv (3 : Int32)] [(.ref ar)])) _
    refine XS.iloadN X30.here hx rfl (hb hby d9_14) rfl ?_
    refine XS.aloadN X30.here hx rfl (hb hby d9_15) rfl rfl ?_
    show Steps p.tables e below (T30.setTop (mkF m 16 #[rv a9_0, iv (1 : Int32), iv (3 : Int32)] [(.ref a9_0), (.int (3 : Int32)), (.ref ar)])) _
    refine st31 _ ?_
    show Steps p.tables e below (T31.setTop (mkF m 19 #[rv a9_0, iv (1 : Int32), iv (3 : Int32)] [(.ref ar), (.int (3 : Int32)), (.ref ar)])) _
    refine XS.iloadN X31.here hx rfl (hb hby d9_19) rfl ?_
    show Steps p.tables e below (T31.setTop (mkF m 20 #[rv a9_0, iv (1 : Int32), iv (3 : Int32)] [(.int (3 : Int32)), (.ref ar), (.int (3 : Int32)), (.ref ar)])) _
    refine X31.baloadBytes hx (j := (3 : Int32)) (v := (.int x3)) (by rw [e31]; exact Ar32.1) (State.isArrayOf_alike hZ.alike Ar32.2.1) Ar32.2.2 hin33 hat34 (g := (mkF m 20 #[rv a9_0, iv (1 : Int32), iv (3 : Int32)] [(.int (3 : Int32)), (.ref ar), (.int (3 : Int32)), (.ref ar)])) rfl rfl (hb hby d9_20) _ ?_
    show Steps p.tables e below (T31.setTop (mkF m 21 #[rv a9_0, iv (1 : Int32), iv (3 : Int32)] [(.int x3), (.int (3 : Int32)), (.ref ar)])) _
    refine XS.iconst X31.here hx rfl (hb hby d9_21) ?_
    refine XS.ixor X31.here hx rfl (hb hby d9_22) rfl ?_
    show Steps p.tables e below (T31.setTop (mkF m 23 #[rv a9_0, iv (1 : Int32), iv (3 : Int32)] [(.int (x3 ^^^ (-1 : Int32))), (.int (3 : Int32)), (.ref ar)])) _
    refine XS.i2b X31.here hx rfl (hb hby d9_23) rfl ?_
    show Steps p.tables e below (T31.setTop (mkF m 24 #[rv a9_0, iv (1 : Int32), iv (3 : Int32)] [(.int ((x3 ^^^ (-1 : Int32)).toInt8.toInt32)), (.int (3 : Int32)), (.ref ar)])) _
    refine st37 _ ?_
    show Steps p.tables e below (T37.setTop (mkF m 25 #[rv a9_0, iv (1 : Int32), iv (3 : Int32)] [])) _
    refine XS.iinc X37.here hx rfl (hb hby d9_25) rfl (l' := #[rv a9_0, iv (1 : Int32), iv (4 : Int32)]) rfl ?_
    refine XS.goto X37.here hx rfl (pc0 := 28) (pc' := 2) rfl (hb hby d9_28) (by decide) (by decide) ?_
    show Steps p.tables e below (T37.setTop (mkF m 2 #[rv a9_0, iv (1 : Int32), iv (4 : Int32)] [])) _
    refine XS.iloadN X37.here hx rfl (hb hby d9_2) rfl ?_
    refine XS.aloadN X37.here hx rfl (hb hby d9_3) rfl rfl ?_
    show Steps p.tables e below (T37.setTop (mkF m 4 #[rv a9_0, iv (1 : Int32), iv (4 : Int32)] [(.ref a9_0), (.int (4 : Int32))])) _
    refine st42 _ ?_
    show Steps p.tables e below (T42.setTop (mkF m 7 #[rv a9_0, iv (1 : Int32), iv (4 : Int32)] [(.int (4 : Int32)), (.int (4 : Int32))])) _
    refine XS.icmpYes X42.here hx rfl (pc0 := 7) (pc' := 31) rfl (hb hby d9_7) rfl (flt (by decide : ¬ ((4 : Int32) < (4 : Int32)))).2.1 (by decide) (by decide) ?_
    show Steps p.tables e below (T42.setTop (mkF m 31 #[rv a9_0, iv (1 : Int32), iv (4 : Int32)] [])) _
    exact X42.returnOut hx Bd.returns (hb hby d9_31) hr
  · show Q_rm_in4_1 Z _ _ _ _ _ _ _ h0 n0 _ T42.heap _
    rw [e42]
    exact ⟨rfl, N40, (K38), f39⟩
theorem ef_rm_in4_2 (m : MethodId) (x0 : Addr) (x1 : Int32) : entryFrame m #[(.ref x0), (.int x1)] 3 = mkF m 0 #[rv x0, iv x1, .unset] [] := by first | (simp [entryFrame, mkF, argsToLocals, Value.category]; done) | rfl
def Q_rm_in4_2 (Z : State) (a9_0 : Addr) (ar : Addr) (ln : Int32) (x0 : Int32) (x1 : Int32) (x2 : Int32) (x3 : Int32) (h0 : Heap) (n0 : Nat) (v : Option Value) (h : Heap) (L : List Loc) : Prop := v = none ∧ Fr n0 L ∧ Keep h0 h [ar] ∧ (Px Z h ar .byte ln [(.int x0), (.int x1), (.int (nar .byte ((x2 ^^^ (-1 : Int32)).toInt8.toInt32))), (.int (nar .byte ((x3 ^^^ (-1 : Int32)).toInt8.toInt32)))])
set_option maxRecDepth 65536 in
set_option maxHeartbeats 40000000 in
theorem rm_in4_2 (l : Launch) (Z : State) (a0 : Array Value) (hw : ∀ d ∈ tables_1, d.before a0 Z = true) (ws : List Jvm.Cond) (a9_0 : Addr) (ar : Addr) (ln : Int32) (x0 : Int32) (x1 : Int32) (x2 : Int32) (x3 : Int32) (h0 : Heap) (n0 : Nat) (Z0 : n0 ≤ h0.size) (pf_G_ar : n0 ≤ ar) (pf_NE_a9_0_ar : a9_0 ≠ ar) (pf_F_a9_0_bytes : Fld Z h0 a9_0 "com/example/dido/dido/keys/KeyWriter" "bytes" "[B" (.ref ar)) (pf_F_a9_0_size : Fld Z h0 a9_0 "com/example/dido/dido/keys/KeyWriter" "size" "I" (.int (4 : Int32))) (pf_X_ar : Px Z h0 ar .byte ln [(.int x0), (.int x1), (.int x2), (.int x3)]) (hle : (4 : Int32).toInt ≤ ln.toInt) :
    MetFree l (⟨"com/example/dido/dido/keys/KeyWriter", "invert", "(I)V"⟩ : MethodName) (head1 (Jvm.Cond.code (⟨"com/example/dido/dido/keys/KeyWriter", "invert", "(I)V"⟩ : MethodName) prog_15_method_11_code 3 none :: ws) ({ frames := 0, cells := 0, slots := 0, locals := 0 } : Room)) (fun a U => a = #[(.ref a9_0), (.int (2 : Int32))] ∧ Z.Warmed39 U.vm ∧ U.heap = h0) (fun _ _ _ _ _ => True) (fun _ U o U' => ∃ v L, o = .returned v ∧ Q_rm_in4_2 Z a9_0 ar ln x0 x1 x2 x3 h0 n0 v U'.heap L ∧ FrameEnd U o U' L ({ frames := 0, cells := 0, slots := 0, locals := 0 } : Room).cells ({ frames := 0, cells := 0, slots := 0, locals := 0 } : Room).slots) := by
  refine MetFree.of_bodySF (plainFor_of_name pn_com_example_dido_dido_keys_KeyWriter) hisR ?_
  intro p e s m args below meth c s₁ Bd hml0 hP hK
  obtain ⟨rfl, hZ, hh⟩ := hP
  have hx := Bd.exec
  have hby := Bd.bytes
  have hml : c.maxLocals = 3 := hml0
  have hown : s.vm.findClass "com/example/dido/dido/keys/KeyWriter" = some m.cls := findClass_of_methodNamed Bd.named
  have hnm := (name_of_methodNamed Bd.named Bd.method).1
  have X0 : Stand p l e ({ frames := 0, cells := 0, slots := 0, locals := 0 } : Room) s m #[(.ref a9_0), (.int (2 : Int32))] below meth c s₁ [] 0 0 := Stand.of_body Bd
  have e0 : s₁.heap = h0 := by rw [← hh, Bd.state]; rfl
  have N0 := Fr.nil n0
  have pre0 : ∀ t, Steps p.tables e below (s₁.setTop (mkF m 0 #[rv a9_0, iv (2 : Int32), .unset] [])) t → Steps p.tables e below (s₁.setTop (entryFrame m #[(.ref a9_0), (.int (2 : Int32))] 3)) t := fun t k => castTop (ef_rm_in4_2 m a9_0 (2 : Int32)) k
  have wo16 := hw _ (List.mem_of_getElem? (i := 16) rfl)
  have wo27 := hw _ (List.mem_of_getElem? (i := 27) rfl)
  obtain ⟨T1, X1, e1, st1⟩ := getF X0 hx hZ hown (host := "") (Or.inl wo27) Via.refl e0 pf_F_a9_0_size (g := (mkF m 4 #[rv a9_0, iv (2 : Int32), iv (2 : Int32)] [(.ref a9_0), (.int (2 : Int32))])) rfl rfl (hb hby d9_4)
  obtain ⟨T2, X2, e2, st2⟩ := getF X1 hx hZ hown (host := "") (Or.inl wo16) Via.refl e1 pf_F_a9_0_bytes (g := (mkF m 11 #[rv a9_0, iv (2 : Int32), iv (2 : Int32)] [(.ref a9_0)])) rfl rfl (hb hby d9_11)
  obtain ⟨T3, X3, e3, st3⟩ := getF X2 hx hZ hown (host := "") (Or.inl wo16) Via.refl e2 pf_F_a9_0_bytes (g := (mkF m 16 #[rv a9_0, iv (2 : Int32), iv (2 : Int32)] [(.ref a9_0), (.int (2 : Int32)), (.ref ar)])) rfl rfl (hb hby d9_16)
  obtain ⟨re4, kk4, cl4, Ar4, qq4, Sz4, Nn4, Hs4, Gf4⟩ := id pf_X_ar
  have hin5 : ¬ ((2 : Int32) < 0 ∨ cl4.slots.size ≤ ((2 : Int32)).toNatClampNeg) := inb_of Sz4 (own_idx _ (4 : Int32) _ hle (by decide) (by decide))
  have hat6 : cl4.slots[((2 : Int32)).toNatClampNeg]? = some (.int x2) := Has.at Hs4 hin5 rfl
  obtain ⟨re7, kk7, cl7, Ar7, qq7, Sz7, Nn7, Hs7, Gf7⟩ := id pf_X_ar
  have hin8 : ¬ ((2 : Int32) < 0 ∨ cl7.slots.size ≤ ((2 : Int32)).toNatClampNeg) := inb_of Sz7 (own_idx _ (4 : Int32) _ hle (by decide) (by decide))
  obtain ⟨T9, h9, X9, e9, W9, st9⟩ := stB X3 hx hZ e3 Ar7 (j := (2 : Int32)) hin8 (g := (mkF m 24 #[rv a9_0, iv (2 : Int32), iv (2 : Int32)] [(.int ((x2 ^^^ (-1 : Int32)).toInt8.toInt32)), (.int (2 : Int32)), (.ref ar)])) rfl rfl (hb hby d9_24)
  have K10 : Keep h0 h9 [ar] := (Keep.refl h0 [ar]).wr W9 (Or.inl (List.mem_of_getElem? (i := 0) rfl))
  have f11 : Px Z h9 ar .byte ln [(.int x0), (.int x1), (.int (nar .byte ((x2 ^^^ (-1 : Int32)).toInt8.toInt32))), (.int x3)] := ⟨_, _, Arv.set Ar7 qq7 Sz7 Nn7 Hs7 Gf7 (by first | rfl | exact fits_nar_byte _) W9 2 rfl (by simp only [List.length_append, List.length_cons, List.length_nil]; omega)⟩
  have N12 := Fr.snoc X9 N0 pf_G_ar
  have f13 := (pf_F_a9_0_size.other W9 (Or.inl pf_NE_a9_0_ar))
  obtain ⟨T14, X14, e14, st14⟩ := getF X9 hx hZ hown (host := "") (Or.inl wo27) Via.refl e9 f13 (g := (mkF m 4 #[rv a9_0, iv (2 : Int32), iv (3 : Int32)] [(.ref a9_0), (.int (3 : Int32))])) rfl rfl (hb hby d9_4)
  have f15 := (pf_F_a9_0_bytes.other W9 (Or.inl pf_NE_a9_0_ar))
  obtain ⟨T16, X16, e16, st16⟩ := getF X14 hx hZ hown (host := "") (Or.inl wo16) Via.refl e14 f15 (g := (mkF m 11 #[rv a9_0, iv (2 : Int32), iv (3 : Int32)] [(.ref a9_0)])) rfl rfl (hb hby d9_11)
  obtain ⟨T17, X17, e17, st17⟩ := getF X16 hx hZ hown (host := "") (Or.inl wo16) Via.refl e16 f15 (g := (mkF m 16 #[rv a9_0, iv (2 : Int32), iv (3 : Int32)] [(.ref a9_0), (.int (3 : Int32)), (.ref ar)])) rfl rfl (hb hby d9_16)
  obtain ⟨re18, kk18, cl18, Ar18, qq18, Sz18, Nn18, Hs18, Gf18⟩ := id f11
  have hin19 : ¬ ((3 : Int32) < 0 ∨ cl18.slots.size ≤ ((3 : Int32)).toNatClampNeg) := inb_of Sz18 (own_idx _ (4 : Int32) _ hle (by decide) (by decide))
  have hat20 : cl18.slots[((3 : Int32)).toNatClampNeg]? = some (.int x3) := Has.at Hs18 hin19 rfl
  obtain ⟨re21, kk21, cl21, Ar21, qq21, Sz21, Nn21, Hs21, Gf21⟩ := id f11
  have hin22 : ¬ ((3 : Int32) < 0 ∨ cl21.slots.size ≤ ((3 : Int32)).toNatClampNeg) := inb_of Sz21 (own_idx _ (4 : Int32) _ hle (by decide) (by decide))
  obtain ⟨T23, h23, X23, e23, W23, st23⟩ := stB X17 hx hZ e17 Ar21 (j := (3 : Int32)) hin22 (g := (mkF m 24 #[rv a9_0, iv (2 : Int32), iv (3 : Int32)] [(.int ((x3 ^^^ (-1 : Int32)).toInt8.toInt32)), (.int (3 : Int32)), (.ref ar)])) rfl rfl (hb hby d9_24)
  have K24 : Keep h0 h23 [ar] := (K10).wr W23 (Or.inl (List.mem_of_getElem? (i := 0) rfl))
  have f25 : Px Z h23 ar .byte ln [(.int x0), (.int x1), (.int (nar .byte ((x2 ^^^ (-1 : Int32)).toInt8.toInt32))), (.int (nar .byte ((x3 ^^^ (-1 : Int32)).toInt8.toInt32)))] := ⟨_, _, Arv.set Ar21 qq21 Sz21 Nn21 Hs21 Gf21 (by first | rfl | exact fits_nar_byte _) W23 3 rfl (by simp only [List.length_append, List.length_cons, List.length_nil]; omega)⟩
  have N26 := Fr.snoc X23 N12 pf_G_ar
  have f27 := (f13.other W23 (Or.inl pf_NE_a9_0_ar))
  obtain ⟨T28, X28, e28, st28⟩ := getF X23 hx hZ hown (host := "") (Or.inl wo27) Via.refl e23 f27 (g := (mkF m 4 #[rv a9_0, iv (2 : Int32), iv (4 : Int32)] [(.ref a9_0), (.int (4 : Int32))])) rfl rfl (hb hby d9_4)
  obtain ⟨fs, hr, hrun, hended, hW, hsame⟩ := X28.leave (v := none) (fun _ => rfl)
  refine ⟨_, _, pre0 _ ?_, hrun, hended, _, _, rfl, ?_, ⟨_, rfl⟩, hW, hsame.mono (by decide) (by decide)⟩
  · show Steps p.tables e below (s₁.setTop (mkF m 0 #[rv a9_0, iv (2 : Int32), .unset] [])) _
    refine XS.iloadN X0.here hx rfl (hb hby d9_0) rfl ?_
    show Steps p.tables e below (s₁.setTop (mkF m 1 #[rv a9_0, iv (2 : Int32), .unset] [(.int (2 : Int32))])) _
    refine XS.istoreN X0.here hx rfl (hb hby d9_1) rfl (l' := #[rv a9_0, iv (2 : Int32), iv (2 : Int32)]) rfl ?_
    refine XS.iloadN X0.here hx rfl (hb hby d9_2) rfl ?_
    refine XS.aloadN X0.here hx rfl (hb hby d9_3) rfl rfl ?_
    show Steps p.tables e below (s₁.setTop (mkF m 4 #[rv a9_0, iv (2 : Int32), iv (2 : Int32)] [(.ref a9_0), (.int (2 : Int32))])) _
    refine st1 _ ?_
    show Steps p.tables e below (T1.setTop (mkF m 7 #[rv a9_0, iv (2 : Int32), iv (2 : Int32)] [(.int (4 : Int32)), (.int (2 : Int32))])) _
    refine XS.icmpNo X1.here hx rfl (hb hby d9_7) rfl (tlt (by decide : (2 : Int32) < (4 : Int32))).2.1 ?_
    refine XS.aloadN X1.here hx rfl (hb hby d9_10) rfl rfl ?_
    show Steps p.tables e below (T1.setTop (mkF m 11 #[rv a9_0, iv (2 : Int32), iv (2 : Int32)] [(.ref a9_0)])) _
    refine st2 _ ?_
    show Steps p.tables e below (T2.setTop (mkF m 14 #[rv a9_0, iv (2 : Int32), iv (2 : Int32)] [(.ref ar)])) _
    refine XS.iloadN X2.here hx rfl (hb hby d9_14) rfl ?_
    show Steps p.tables e below (T2.setTop (mkF m 15 #[rv a9_0, iv (2 : Int32), iv (2 : Int32)] [(.int (2 : Int32)), (.ref ar)])) _
    refine XS.aloadN X2.here hx rfl (hb hby d9_15) rfl rfl ?_
    show Steps p.tables e below (T2.setTop (mkF m 16 #[rv a9_0, iv (2 : Int32), iv (2 : Int32)] [(.ref a9_0), (.int (2 : Int32)), (.ref ar)])) _
    refine st3 _ ?_
    show Steps p.tables e below (T3.setTop (mkF m 19 #[rv a9_0, iv (2 : Int32), iv (2 : Int32)] [(.ref ar), (.int (2 : Int32)), (.ref ar)])) _
    refine XS.iloadN X3.here hx rfl (hb hby d9_19) rfl ?_
    show Steps p.tables e below (T3.setTop (mkF m 20 #[rv a9_0, iv (2 : Int32), iv (2 : Int32)] [(.int (2 : Int32)), (.ref ar), (.int (2 : Int32)), (.ref ar)])) _
    refine X3.baloadBytes hx (j := (2 : Int32)) (v := (.int x2)) (by rw [e3]; exact Ar4.1) (State.isArrayOf_alike hZ.alike Ar4.2.1) Ar4.2.2 hin5 hat6 (g := (mkF m 20 #[rv a9_0, iv (2 : Int32), iv (2 : Int32)] [(.int (2 : Int32)), (.ref ar), (.int (2 : Int32)), (.ref ar)])) rfl rfl (hb hby d9_20) _ ?_
    show Steps p.tables e below (T3.setTop (mkF m 21 #[rv a9_0, iv (2 : Int32), iv (2 : Int32)] [(.int x2), (.int (2 : Int32)), (.ref ar)])) _
    refine XS.iconst X3.here hx rfl (hb hby d9_21) ?_
    refine XS.ixor X3.here hx rfl (hb hby d9_22) rfl ?_
    refine XS.i2b X3.here hx rfl (hb hby d9_23) rfl ?_
    show Steps p.tables e below (T3.setTop (mkF m 24 #[rv a9_0, iv (2 : Int32), iv (2 : Int32)] [(.int ((x2 ^^^ (-1 : Int32)).toInt8.toInt32)), (.int (2 : Int32)), (.ref ar)])) _
    refine st9 _ ?_
    show Steps p.tables e below (T9.setTop (mkF m 25 #[rv a9_0, iv (2 : Int32), iv (2 : Int32)] [])) _
    refine XS.iinc X9.here hx rfl (hb hby d9_25) rfl (l' := #[rv a9_0, iv (2 : Int32), iv (3 : Int32)]) rfl ?_
    refine XS.goto X9.here hx rfl (pc0 := 28) (pc' := 2) rfl (hb hby d9_28) (by decide) (by decide) ?_
    refine XS.iloadN X9.here hx rfl (hb hby d9_2) rfl ?_
    refine XS.aloadN X9.here hx rfl (hb hby d9_3) rfl rfl ?_
    show Steps p.tables e below (T9.setTop (mkF m 4 #[rv a9_0, iv (2 : Int32), iv (3 : Int32)] [(.ref a9_0), (.int (3 : Int32))])) _
    refine st14 _ ?_
    show Steps p.tables e below (T14.setTop (mkF m 7 #[rv a9_0, iv (2 : Int32), iv (3 : Int32)] [(.int (4 : Int32)), (.int (3 : Int32))])) _
    refine XS.icmpNo X14.here hx rfl (hb hby d9_7) rfl (tlt (by decide : (3 : Int32) < (4 : Int32))).2.1 ?_
    refine XS.aloadN X14.here hx rfl (hb hby d9_10) rfl rfl ?_
    show Steps p.tables e below (T14.setTop (mkF m 11 #[rv a9_0, iv (2 : Int32), iv (3 : Int32)] [(.ref a9_0)])) _
    refine st16 _ ?_
    show Steps p.tables e below (T16.setTop (mkF m 14 #[rv a9_0, iv (2 : Int32), iv (3 : Int32)] [(.ref ar)])) _
    refine XS.iloadN X16.here hx rfl (hb hby d9_14) rfl ?_
    refine XS.aloadN X16.here hx rfl (hb hby d9_15) rfl rfl ?_
    show Steps p.tables e below (T16.setTop (mkF m 16 #[rv a9_0, iv (2 : Int32), iv (3 : Int32)] [(.ref a9_0), (.int (3 : Int32)), (.ref ar)])) _
    refine st17 _ ?_
    show Steps p.tables e below (T17.setTop (mkF m 19 #[rv a9_0, iv (2 : Int32), iv (3 : Int32)] [(.ref ar), (.int (3 : Int32)), (.ref ar)])) _
    refine XS.iloadN X17.here hx rfl (hb hby d9_19) rfl ?_
    show Steps p.tables e below (T17.setTop (mkF m 20 #[rv a9_0, iv (2 : Int32), iv (3 : Int32)] [(.int (3 : Int32)), (.ref ar), (.int (3 : Int32)), (.ref ar)])) _
    refine X17.baloadBytes hx (j := (3 : Int32)) (v := (.int x3)) (by rw [e17]; exact Ar18.1) (State.isArrayOf_alike hZ.alike Ar18.2.1) Ar18.2.2 hin19 hat20 (g := (mkF m 20 #[rv a9_0, iv (2 : Int32), iv (3 : Int32)] [(.int (3 : Int32)), (.ref ar), (.int (3 : Int32)), (.ref ar)])) rfl rfl (hb hby d9_20) _ ?_
    show Steps p.tables e below (T17.setTop (mkF m 21 #[rv a9_0, iv (2 : Int32), iv (3 : Int32)] [(.int x3), (.int (3 : Int32)), (.ref ar)])) _
    refine XS.iconst X17.here hx rfl (hb hby d9_21) ?_
    refine XS.ixor X17.here hx rfl (hb hby d9_22) rfl ?_
    refine XS.i2b X17.here hx rfl (hb hby d9_23) rfl ?_
    show Steps p.tables e below (T17.setTop (mkF m 24 #[rv a9_0, iv (2 : Int32), iv (3 : Int32)] [(.int ((x3 ^^^ (-1 : Int32)).toInt8.toInt32)), (.int (3 : Int32)), (.ref ar)])) _
    refine st23 _ ?_
    show Steps p.tables e below (T23.setTop (mkF m 25 #[rv a9_0, iv (2 : Int32), iv (3 : Int32)] [])) _
    refine XS.iinc X23.here hx rfl (hb hby d9_25) rfl (l' := #[rv a9_0, iv (2 : Int32), iv (4 : Int32)]) rfl ?_
    refine XS.goto X23.here hx rfl (pc0 := 28) (pc' := 2) rfl (hb hby d9_28) (by decide) (by decide) ?_
    refine XS.iloadN X23.here hx rfl (hb hby d9_2) rfl ?_
    show Steps p.tables e below (T23.setTop (mkF m 3 #[rv a9_0, iv (2 : Int32), iv (4 : Int32)] [(.int (4 : Int32))])) _
    refine XS.aloadN X23.here hx rfl (hb hby d9_3) rfl rfl ?_
    show Steps p.tables e below (T23.setTop (mkF m 4 #[rv a9_0, iv (2 : Int32), iv (4 : Int32)] [(.ref a9_0), (.int (4 : Int32))])) _
    refine st28 _ ?_
    show Steps p.tables e below (T28.setTop (mkF m 7 #[rv a9_0, iv (2 : Int32), iv (4 : Int32)] [(.int (4 : Int32)), (.int (4 : Int32))])) _
    refine XS.icmpYes X28.here hx rfl (pc0 := 7) (pc' := 31) rfl (hb hby d9_7) rfl (flt (by decide : ¬ ((4 : Int32) < (4 : Int32)))).2.1 (by decide) (by decide) ?_
    show Steps p.tables e below (T28.setTop (mkF m 31 #[rv a9_0, iv (2 : Int32), iv (4 : Int32)] [])) _
    exact X28.returnOut hx Bd.returns (hb hby d9_31) hr
  · show Q_rm_in4_2 Z _ _ _ _ _ _ _ h0 n0 _ T28.heap _
    rw [e28]
    exact ⟨rfl, N26, (K24), f25⟩
theorem ef_rm_in4_3 (m : MethodId) (x0 : Addr) (x1 : Int32) : entryFrame m #[(.ref x0), (.int x1)] 3 = mkF m 0 #[rv x0, iv x1, .unset] [] := by first | (simp [entryFrame, mkF, argsToLocals, Value.category]; done) | rfl
def Q_rm_in4_3 (Z : State) (a9_0 : Addr) (ar : Addr) (ln : Int32) (x0 : Int32) (x1 : Int32) (x2 : Int32) (x3 : Int32) (h0 : Heap) (n0 : Nat) (v : Option Value) (h : Heap) (L : List Loc) : Prop := v = none ∧ Fr n0 L ∧ Keep h0 h [ar] ∧ (Px Z h ar .byte ln [(.int x0), (.int x1), (.int x2), (.int (nar .byte ((x3 ^^^ (-1 : Int32)).toInt8.toInt32)))])
set_option maxRecDepth 65536 in
set_option maxHeartbeats 40000000 in
theorem rm_in4_3 (l : Launch) (Z : State) (a0 : Array Value) (hw : ∀ d ∈ tables_1, d.before a0 Z = true) (ws : List Jvm.Cond) (a9_0 : Addr) (ar : Addr) (ln : Int32) (x0 : Int32) (x1 : Int32) (x2 : Int32) (x3 : Int32) (h0 : Heap) (n0 : Nat) (Z0 : n0 ≤ h0.size) (pf_G_ar : n0 ≤ ar) (pf_NE_a9_0_ar : a9_0 ≠ ar) (pf_F_a9_0_bytes : Fld Z h0 a9_0 "com/example/dido/dido/keys/KeyWriter" "bytes" "[B" (.ref ar)) (pf_F_a9_0_size : Fld Z h0 a9_0 "com/example/dido/dido/keys/KeyWriter" "size" "I" (.int (4 : Int32))) (pf_X_ar : Px Z h0 ar .byte ln [(.int x0), (.int x1), (.int x2), (.int x3)]) (hle : (4 : Int32).toInt ≤ ln.toInt) :
    MetFree l (⟨"com/example/dido/dido/keys/KeyWriter", "invert", "(I)V"⟩ : MethodName) (head1 (Jvm.Cond.code (⟨"com/example/dido/dido/keys/KeyWriter", "invert", "(I)V"⟩ : MethodName) prog_15_method_11_code 3 none :: ws) ({ frames := 0, cells := 0, slots := 0, locals := 0 } : Room)) (fun a U => a = #[(.ref a9_0), (.int (3 : Int32))] ∧ Z.Warmed39 U.vm ∧ U.heap = h0) (fun _ _ _ _ _ => True) (fun _ U o U' => ∃ v L, o = .returned v ∧ Q_rm_in4_3 Z a9_0 ar ln x0 x1 x2 x3 h0 n0 v U'.heap L ∧ FrameEnd U o U' L ({ frames := 0, cells := 0, slots := 0, locals := 0 } : Room).cells ({ frames := 0, cells := 0, slots := 0, locals := 0 } : Room).slots) := by
  refine MetFree.of_bodySF (plainFor_of_name pn_com_example_dido_dido_keys_KeyWriter) hisR ?_
  intro p e s m args below meth c s₁ Bd hml0 hP hK
  obtain ⟨rfl, hZ, hh⟩ := hP
  have hx := Bd.exec
  have hby := Bd.bytes
  have hml : c.maxLocals = 3 := hml0
  have hown : s.vm.findClass "com/example/dido/dido/keys/KeyWriter" = some m.cls := findClass_of_methodNamed Bd.named
  have hnm := (name_of_methodNamed Bd.named Bd.method).1
  have X0 : Stand p l e ({ frames := 0, cells := 0, slots := 0, locals := 0 } : Room) s m #[(.ref a9_0), (.int (3 : Int32))] below meth c s₁ [] 0 0 := Stand.of_body Bd
  have e0 : s₁.heap = h0 := by rw [← hh, Bd.state]; rfl
  have N0 := Fr.nil n0
  have pre0 : ∀ t, Steps p.tables e below (s₁.setTop (mkF m 0 #[rv a9_0, iv (3 : Int32), .unset] [])) t → Steps p.tables e below (s₁.setTop (entryFrame m #[(.ref a9_0), (.int (3 : Int32))] 3)) t := fun t k => castTop (ef_rm_in4_3 m a9_0 (3 : Int32)) k
  have wo16 := hw _ (List.mem_of_getElem? (i := 16) rfl)
  have wo27 := hw _ (List.mem_of_getElem? (i := 27) rfl)
  obtain ⟨T1, X1, e1, st1⟩ := getF X0 hx hZ hown (host := "") (Or.inl wo27) Via.refl e0 pf_F_a9_0_size (g := (mkF m 4 #[rv a9_0, iv (3 : Int32), iv (3 : Int32)] [(.ref a9_0), (.int (3 : Int32))])) rfl rfl (hb hby d9_4)
  obtain ⟨T2, X2, e2, st2⟩ := getF X1 hx hZ hown (host := "") (Or.inl wo16) Via.refl e1 pf_F_a9_0_bytes (g := (mkF m 11 #[rv a9_0, iv (3 : Int32), iv (3 : Int32)] [(.ref a9_0)])) rfl rfl (hb hby d9_11)
  obtain ⟨T3, X3, e3, st3⟩ := getF X2 hx hZ hown (host := "") (Or.inl wo16) Via.refl e2 pf_F_a9_0_bytes (g := (mkF m 16 #[rv a9_0, iv (3 : Int32), iv (3 : Int32)] [(.ref a9_0), (.int (3 : Int32)), (.ref ar)])) rfl rfl (hb hby d9_16)
  obtain ⟨re4, kk4, cl4, Ar4, qq4, Sz4, Nn4, Hs4, Gf4⟩ := id pf_X_ar
  have hin5 : ¬ ((3 : Int32) < 0 ∨ cl4.slots.size ≤ ((3 : Int32)).toNatClampNeg) := inb_of Sz4 (own_idx _ (4 : Int32) _ hle (by decide) (by decide))
  have hat6 : cl4.slots[((3 : Int32)).toNatClampNeg]? = some (.int x3) := Has.at Hs4 hin5 rfl
  obtain ⟨re7, kk7, cl7, Ar7, qq7, Sz7, Nn7, Hs7, Gf7⟩ := id pf_X_ar
  have hin8 : ¬ ((3 : Int32) < 0 ∨ cl7.slots.size ≤ ((3 : Int32)).toNatClampNeg) := inb_of Sz7 (own_idx _ (4 : Int32) _ hle (by decide) (by decide))
  obtain ⟨T9, h9, X9, e9, W9, st9⟩ := stB X3 hx hZ e3 Ar7 (j := (3 : Int32)) hin8 (g := (mkF m 24 #[rv a9_0, iv (3 : Int32), iv (3 : Int32)] [(.int ((x3 ^^^ (-1 : Int32)).toInt8.toInt32)), (.int (3 : Int32)), (.ref ar)])) rfl rfl (hb hby d9_24)
  have K10 : Keep h0 h9 [ar] := (Keep.refl h0 [ar]).wr W9 (Or.inl (List.mem_of_getElem? (i := 0) rfl))
  have f11 : Px Z h9 ar .byte ln [(.int x0), (.int x1), (.int x2), (.int (nar .byte ((x3 ^^^ (-1 : Int32)).toInt8.toInt32)))] := ⟨_, _, Arv.set Ar7 qq7 Sz7 Nn7 Hs7 Gf7 (by first | rfl | exact fits_nar_byte _) W9 3 rfl (by simp only [List.length_append, List.length_cons, List.length_nil]; omega)⟩
  have N12 := Fr.snoc X9 N0 pf_G_ar
  have f13 := (pf_F_a9_0_size.other W9 (Or.inl pf_NE_a9_0_ar))
  obtain ⟨T14, X14, e14, st14⟩ := getF X9 hx hZ hown (host := "") (Or.inl wo27) Via.refl e9 f13 (g := (mkF m 4 #[rv a9_0, iv (3 : Int32), iv (4 : Int32)] [(.ref a9_0), (.int (4 : Int32))])) rfl rfl (hb hby d9_4)
  obtain ⟨fs, hr, hrun, hended, hW, hsame⟩ := X14.leave (v := none) (fun _ => rfl)
  refine ⟨_, _, pre0 _ ?_, hrun, hended, _, _, rfl, ?_, ⟨_, rfl⟩, hW, hsame.mono (by decide) (by decide)⟩
  · show Steps p.tables e below (s₁.setTop (mkF m 0 #[rv a9_0, iv (3 : Int32), .unset] [])) _
    refine XS.iloadN X0.here hx rfl (hb hby d9_0) rfl ?_
    show Steps p.tables e below (s₁.setTop (mkF m 1 #[rv a9_0, iv (3 : Int32), .unset] [(.int (3 : Int32))])) _
    refine XS.istoreN X0.here hx rfl (hb hby d9_1) rfl (l' := #[rv a9_0, iv (3 : Int32), iv (3 : Int32)]) rfl ?_
    refine XS.iloadN X0.here hx rfl (hb hby d9_2) rfl ?_
    refine XS.aloadN X0.here hx rfl (hb hby d9_3) rfl rfl ?_
    show Steps p.tables e below (s₁.setTop (mkF m 4 #[rv a9_0, iv (3 : Int32), iv (3 : Int32)] [(.ref a9_0), (.int (3 : Int32))])) _
    refine st1 _ ?_
    show Steps p.tables e below (T1.setTop (mkF m 7 #[rv a9_0, iv (3 : Int32), iv (3 : Int32)] [(.int (4 : Int32)), (.int (3 : Int32))])) _
    refine XS.icmpNo X1.here hx rfl (hb hby d9_7) rfl (tlt (by decide : (3 : Int32) < (4 : Int32))).2.1 ?_
    refine XS.aloadN X1.here hx rfl (hb hby d9_10) rfl rfl ?_
    show Steps p.tables e below (T1.setTop (mkF m 11 #[rv a9_0, iv (3 : Int32), iv (3 : Int32)] [(.ref a9_0)])) _
    refine st2 _ ?_
    show Steps p.tables e below (T2.setTop (mkF m 14 #[rv a9_0, iv (3 : Int32), iv (3 : Int32)] [(.ref ar)])) _
    refine XS.iloadN X2.here hx rfl (hb hby d9_14) rfl ?_
    show Steps p.tables e below (T2.setTop (mkF m 15 #[rv a9_0, iv (3 : Int32), iv (3 : Int32)] [(.int (3 : Int32)), (.ref ar)])) _
    refine XS.aloadN X2.here hx rfl (hb hby d9_15) rfl rfl ?_
    show Steps p.tables e below (T2.setTop (mkF m 16 #[rv a9_0, iv (3 : Int32), iv (3 : Int32)] [(.ref a9_0), (.int (3 : Int32)), (.ref ar)])) _
    refine st3 _ ?_
    show Steps p.tables e below (T3.setTop (mkF m 19 #[rv a9_0, iv (3 : Int32), iv (3 : Int32)] [(.ref ar), (.int (3 : Int32)), (.ref ar)])) _
    refine XS.iloadN X3.here hx rfl (hb hby d9_19) rfl ?_
    show Steps p.tables e below (T3.setTop (mkF m 20 #[rv a9_0, iv (3 : Int32), iv (3 : Int32)] [(.int (3 : Int32)), (.ref ar), (.int (3 : Int32)), (.ref ar)])) _
    refine X3.baloadBytes hx (j := (3 : Int32)) (v := (.int x3)) (by rw [e3]; exact Ar4.1) (State.isArrayOf_alike hZ.alike Ar4.2.1) Ar4.2.2 hin5 hat6 (g := (mkF m 20 #[rv a9_0, iv (3 : Int32), iv (3 : Int32)] [(.int (3 : Int32)), (.ref ar), (.int (3 : Int32)), (.ref ar)])) rfl rfl (hb hby d9_20) _ ?_
    show Steps p.tables e below (T3.setTop (mkF m 21 #[rv a9_0, iv (3 : Int32), iv (3 : Int32)] [(.int x3), (.int (3 : Int32)), (.ref ar)])) _
    refine XS.iconst X3.here hx rfl (hb hby d9_21) ?_
    refine XS.ixor X3.here hx rfl (hb hby d9_22) rfl ?_
    refine XS.i2b X3.here hx rfl (hb hby d9_23) rfl ?_
    show Steps p.tables e below (T3.setTop (mkF m 24 #[rv a9_0, iv (3 : Int32), iv (3 : Int32)] [(.int ((x3 ^^^ (-1 : Int32)).toInt8.toInt32)), (.int (3 : Int32)), (.ref ar)])) _
    refine st9 _ ?_
    show Steps p.tables e below (T9.setTop (mkF m 25 #[rv a9_0, iv (3 : Int32), iv (3 : Int32)] [])) _
    refine XS.iinc X9.here hx rfl (hb hby d9_25) rfl (l' := #[rv a9_0, iv (3 : Int32), iv (4 : Int32)]) rfl ?_
    refine XS.goto X9.here hx rfl (pc0 := 28) (pc' := 2) rfl (hb hby d9_28) (by decide) (by decide) ?_
    refine XS.iloadN X9.here hx rfl (hb hby d9_2) rfl ?_
    refine XS.aloadN X9.here hx rfl (hb hby d9_3) rfl rfl ?_
    show Steps p.tables e below (T9.setTop (mkF m 4 #[rv a9_0, iv (3 : Int32), iv (4 : Int32)] [(.ref a9_0), (.int (4 : Int32))])) _
    refine st14 _ ?_
    show Steps p.tables e below (T14.setTop (mkF m 7 #[rv a9_0, iv (3 : Int32), iv (4 : Int32)] [(.int (4 : Int32)), (.int (4 : Int32))])) _
    refine XS.icmpYes X14.here hx rfl (pc0 := 7) (pc' := 31) rfl (hb hby d9_7) rfl (flt (by decide : ¬ ((4 : Int32) < (4 : Int32)))).2.1 (by decide) (by decide) ?_
    show Steps p.tables e below (T14.setTop (mkF m 31 #[rv a9_0, iv (3 : Int32), iv (4 : Int32)] [])) _
    exact X14.returnOut hx Bd.returns (hb hby d9_31) hr
  · show Q_rm_in4_3 Z _ _ _ _ _ _ _ h0 n0 _ T14.heap _
    rw [e14]
    exact ⟨rfl, N12, (K10), f11⟩
theorem ef_rm_in4_4 (m : MethodId) (x0 : Addr) (x1 : Int32) : entryFrame m #[(.ref x0), (.int x1)] 3 = mkF m 0 #[rv x0, iv x1, .unset] [] := by first | (simp [entryFrame, mkF, argsToLocals, Value.category]; done) | rfl
def Q_rm_in4_4 (Z : State) (a9_0 : Addr) (ar : Addr) (ln : Int32) (x0 : Int32) (x1 : Int32) (x2 : Int32) (x3 : Int32) (h0 : Heap) (n0 : Nat) (v : Option Value) (h : Heap) (L : List Loc) : Prop := v = none ∧ Fr n0 L ∧ Keep h0 h [ar] ∧ (Px Z h ar .byte ln [(.int x0), (.int x1), (.int x2), (.int x3)])
set_option maxRecDepth 65536 in
set_option maxHeartbeats 40000000 in
theorem rm_in4_4 (l : Launch) (Z : State) (a0 : Array Value) (hw : ∀ d ∈ tables_1, d.before a0 Z = true) (ws : List Jvm.Cond) (a9_0 : Addr) (ar : Addr) (ln : Int32) (x0 : Int32) (x1 : Int32) (x2 : Int32) (x3 : Int32) (h0 : Heap) (n0 : Nat) (Z0 : n0 ≤ h0.size) (pf_G_ar : n0 ≤ ar) (pf_NE_a9_0_ar : a9_0 ≠ ar) (pf_F_a9_0_bytes : Fld Z h0 a9_0 "com/example/dido/dido/keys/KeyWriter" "bytes" "[B" (.ref ar)) (pf_F_a9_0_size : Fld Z h0 a9_0 "com/example/dido/dido/keys/KeyWriter" "size" "I" (.int (4 : Int32))) (pf_X_ar : Px Z h0 ar .byte ln [(.int x0), (.int x1), (.int x2), (.int x3)]) (hle : (4 : Int32).toInt ≤ ln.toInt) :
    MetFree l (⟨"com/example/dido/dido/keys/KeyWriter", "invert", "(I)V"⟩ : MethodName) (head1 (Jvm.Cond.code (⟨"com/example/dido/dido/keys/KeyWriter", "invert", "(I)V"⟩ : MethodName) prog_15_method_11_code 3 none :: ws) ({ frames := 0, cells := 0, slots := 0, locals := 0 } : Room)) (fun a U => a = #[(.ref a9_0), (.int (4 : Int32))] ∧ Z.Warmed39 U.vm ∧ U.heap = h0) (fun _ _ _ _ _ => True) (fun _ U o U' => ∃ v L, o = .returned v ∧ Q_rm_in4_4 Z a9_0 ar ln x0 x1 x2 x3 h0 n0 v U'.heap L ∧ FrameEnd U o U' L ({ frames := 0, cells := 0, slots := 0, locals := 0 } : Room).cells ({ frames := 0, cells := 0, slots := 0, locals := 0 } : Room).slots) := by
  refine MetFree.of_bodySF (plainFor_of_name pn_com_example_dido_dido_keys_KeyWriter) hisR ?_
  intro p e s m args below meth c s₁ Bd hml0 hP hK
  obtain ⟨rfl, hZ, hh⟩ := hP
  have hx := Bd.exec
  have hby := Bd.bytes
  have hml : c.maxLocals = 3 := hml0
  have hown : s.vm.findClass "com/example/dido/dido/keys/KeyWriter" = some m.cls := findClass_of_methodNamed Bd.named
  have hnm := (name_of_methodNamed Bd.named Bd.method).1
  have X0 : Stand p l e ({ frames := 0, cells := 0, slots := 0, locals := 0 } : Room) s m #[(.ref a9_0), (.int (4 : Int32))] below meth c s₁ [] 0 0 := Stand.of_body Bd
  have e0 : s₁.heap = h0 := by rw [← hh, Bd.state]; rfl
  have N0 := Fr.nil n0
  have pre0 : ∀ t, Steps p.tables e below (s₁.setTop (mkF m 0 #[rv a9_0, iv (4 : Int32), .unset] [])) t → Steps p.tables e below (s₁.setTop (entryFrame m #[(.ref a9_0), (.int (4 : Int32))] 3)) t := fun t k => castTop (ef_rm_in4_4 m a9_0 (4 : Int32)) k
  have wo27 := hw _ (List.mem_of_getElem? (i := 27) rfl)
  obtain ⟨T1, X1, e1, st1⟩ := getF X0 hx hZ hown (host := "") (Or.inl wo27) Via.refl e0 pf_F_a9_0_size (g := (mkF m 4 #[rv a9_0, iv (4 : Int32), iv (4 : Int32)] [(.ref a9_0), (.int (4 : Int32))])) rfl rfl (hb hby d9_4)
  obtain ⟨fs, hr, hrun, hended, hW, hsame⟩ := X1.leave (v := none) (fun _ => rfl)
  refine ⟨_, _, pre0 _ ?_, hrun, hended, _, _, rfl, ?_, ⟨_, rfl⟩, hW, hsame.mono (by decide) (by decide)⟩
  · show Steps p.tables e below (s₁.setTop (mkF m 0 #[rv a9_0, iv (4 : Int32), .unset] [])) _
    refine XS.iloadN X0.here hx rfl (hb hby d9_0) rfl ?_
    show Steps p.tables e below (s₁.setTop (mkF m 1 #[rv a9_0, iv (4 : Int32), .unset] [(.int (4 : Int32))])) _
    refine XS.istoreN X0.here hx rfl (hb hby d9_1) rfl (l' := #[rv a9_0, iv (4 : Int32), iv (4 : Int32)]) rfl ?_
    refine XS.iloadN X0.here hx rfl (hb hby d9_2) rfl ?_
    refine XS.aloadN X0.here hx rfl (hb hby d9_3) rfl rfl ?_
    show Steps p.tables e below (s₁.setTop (mkF m 4 #[rv a9_0, iv (4 : Int32), iv (4 : Int32)] [(.ref a9_0), (.int (4 : Int32))])) _
    refine st1 _ ?_
    show Steps p.tables e below (T1.setTop (mkF m 7 #[rv a9_0, iv (4 : Int32), iv (4 : Int32)] [(.int (4 : Int32)), (.int (4 : Int32))])) _
    refine XS.icmpYes X1.here hx rfl (pc0 := 7) (pc' := 31) rfl (hb hby d9_7) rfl (flt (by decide : ¬ ((4 : Int32) < (4 : Int32)))).2.1 (by decide) (by decide) ?_
    show Steps p.tables e below (T1.setTop (mkF m 31 #[rv a9_0, iv (4 : Int32), iv (4 : Int32)] [])) _
    exact X1.returnOut hx Bd.returns (hb hby d9_31) hr
  · show Q_rm_in4_4 Z _ _ _ _ _ _ _ h0 n0 _ T1.heap _
    rw [e1]
    exact ⟨rfl, N0, (Keep.refl h0 [ar]), pf_X_ar⟩
theorem d10_0 : decode prog_15_method_12_code 0 = .ok (.aload_n 0, 1) := by decide +kernel
theorem d10_1 : decode prog_15_method_12_code 1 = .ok (.getfield 28, 3) := by decide +kernel
theorem d10_4 : decode prog_15_method_12_code 4 = .ok (.aload_n 0, 1) := by decide +kernel
theorem d10_5 : decode prog_15_method_12_code 5 = .ok (.getfield 24, 3) := by decide +kernel
theorem d10_8 : decode prog_15_method_12_code 8 = .ok (.arraylength, 1) := by decide +kernel
theorem d10_9 : decode prog_15_method_12_code 9 = .ok (.if_icmp .ne 10, 3) := by decide +kernel
theorem d10_12 : decode prog_15_method_12_code 12 = .ok (.aload_n 0, 1) := by decide +kernel
theorem d10_13 : decode prog_15_method_12_code 13 = .ok (.getfield 24, 3) := by decide +kernel
theorem d10_16 : decode prog_15_method_12_code 16 = .ok (.goto 14, 3) := by decide +kernel
theorem d10_30 : decode prog_15_method_12_code 30 = .ok (.areturn, 1) := by decide +kernel
theorem d10_19 : decode prog_15_method_12_code 19 = .ok (.aload_n 0, 1) := by decide +kernel
theorem d10_20 : decode prog_15_method_12_code 20 = .ok (.getfield 24, 3) := by decide +kernel
theorem d10_23 : decode prog_15_method_12_code 23 = .ok (.aload_n 0, 1) := by decide +kernel
theorem d10_24 : decode prog_15_method_12_code 24 = .ok (.getfield 28, 3) := by decide +kernel
theorem d10_27 : decode prog_15_method_12_code 27 = .ok (.invokestatic 97, 3) := by decide +kernel
theorem ef_rm_tb0 (m : MethodId) (x0 : Addr) : entryFrame m #[(.ref x0)] 1 = mkF m 0 #[rv x0] [] := by first | (simp [entryFrame, mkF, argsToLocals, Value.category]; done) | rfl
def Q_rm_tb0 (Z : State) (a10_0 : Addr) (ar : Addr) (ln : Int32) (h0 : Heap) (n0 : Nat) (v : Option Value) (h : Heap) (L : List Loc) : Prop := ∃ (b : Addr), v = some (.ref b) ∧ Fr n0 L ∧ Keep h0 h [] ∧ (Av Z h b .byte (0 : Int32) [] (.int (0 : Int32)))
set_option maxRecDepth 65536 in
set_option maxHeartbeats 40000000 in
theorem rm_tb0 (l : Launch) (Z : State) (a0 : Array Value) (hw : ∀ d ∈ tables_1, d.before a0 Z = true) (ws : List Jvm.Cond) (a10_0 : Addr) (ar : Addr) (ln : Int32) (h0 : Heap) (n0 : Nat) (Z0 : n0 ≤ h0.size) (pf_F_a10_0_bytes : Fld Z h0 a10_0 "com/example/dido/dido/keys/KeyWriter" "bytes" "[B" (.ref ar)) (pf_F_a10_0_size : Fld Z h0 a10_0 "com/example/dido/dido/keys/KeyWriter" "size" "I" (.int (0 : Int32))) (pf_X_ar : Px Z h0 ar .byte ln []) (hle : (0 : Int32).toInt ≤ ln.toInt) :
    MetFree l (⟨"com/example/dido/dido/keys/KeyWriter", "toByteArray", "()[B"⟩ : MethodName) (head1 (Jvm.Cond.code (⟨"com/example/dido/dido/keys/KeyWriter", "toByteArray", "()[B"⟩ : MethodName) prog_15_method_12_code 1 (some (.array .byte)) :: ws) ({ frames := 2, cells := 1, slots := 0, locals := 32 } : Room)) (fun a U => a = #[(.ref a10_0)] ∧ Z.Warmed39 U.vm ∧ U.heap = h0) (fun _ _ _ _ _ => True) (fun _ U o U' => ∃ v L, o = .returned v ∧ Q_rm_tb0 Z a10_0 ar ln h0 n0 v U'.heap L ∧ FrameEnd U o U' L ({ frames := 2, cells := 1, slots := 0, locals := 32 } : Room).cells ({ frames := 2, cells := 1, slots := 0, locals := 32 } : Room).slots) := by
  refine MetFree.of_bodySF (plainFor_of_name pn_com_example_dido_dido_keys_KeyWriter) hisR ?_
  intro p e s m args below meth c s₁ Bd hml0 hP hK
  obtain ⟨rfl, hZ, hh⟩ := hP
  have hx := Bd.exec
  have hby := Bd.bytes
  have hml : c.maxLocals = 1 := hml0
  have hown : s.vm.findClass "com/example/dido/dido/keys/KeyWriter" = some m.cls := findClass_of_methodNamed Bd.named
  have hnm := (name_of_methodNamed Bd.named Bd.method).1
  have X0 : Stand p l e ({ frames := 2, cells := 1, slots := 0, locals := 32 } : Room) s m #[(.ref a10_0)] below meth c s₁ [] 0 0 := Stand.of_body Bd
  have e0 : s₁.heap = h0 := by rw [← hh, Bd.state]; rfl
  have N0 := Fr.nil n0
  have pre0 : ∀ t, Steps p.tables e below (s₁.setTop (mkF m 0 #[rv a10_0] [])) t → Steps p.tables e below (s₁.setTop (entryFrame m #[(.ref a10_0)] 1)) t := fun t k => castTop (ef_rm_tb0 m a10_0) k
  have wo16 := hw _ (List.mem_of_getElem? (i := 16) rfl)
  have wo27 := hw _ (List.mem_of_getElem? (i := 27) rfl)
  have wo32 := hw _ (List.mem_of_getElem? (i := 32) rfl)
  have wo33 := hw _ (List.mem_of_getElem? (i := 33) rfl)
  have wo34 := hw _ (List.mem_of_getElem? (i := 34) rfl)
  have wo35 := hw _ (List.mem_of_getElem? (i := 35) rfl)
  obtain ⟨T1, X1, e1, st1⟩ := getF X0 hx hZ hown (host := "") (Or.inl wo27) Via.refl e0 pf_F_a10_0_size (g := (mkF m 1 #[rv a10_0] [(.ref a10_0)])) rfl rfl (hb hby d10_1)
  obtain ⟨T2, X2, e2, st2⟩ := getF X1 hx hZ hown (host := "") (Or.inl wo16) Via.refl e1 pf_F_a10_0_bytes (g := (mkF m 5 #[rv a10_0] [(.ref a10_0), (.int (0 : Int32))])) rfl rfl (hb hby d10_5)
  obtain ⟨re3, kk3, cl3, Ar3, qq3, Sz3, Nn3, Hs3, Gf3⟩ := id pf_X_ar
  have pre5 : ∀ t, Steps p.tables e below (T2.setTop (mkF m 9 #[rv a10_0] [(.int ln), (.int (0 : Int32))])) t → Steps p.tables e below (s₁.setTop (entryFrame m #[(.ref a10_0)] 1)) t := by
    intro t_ k_
    refine pre0 _ ?_
    show Steps p.tables e below (s₁.setTop (mkF m 0 #[rv a10_0] [])) _
    refine XS.aloadN X0.here hx rfl (hb hby d10_0) rfl rfl ?_
    show Steps p.tables e below (s₁.setTop (mkF m 1 #[rv a10_0] [(.ref a10_0)])) _
    refine st1 _ ?_
    show Steps p.tables e below (T1.setTop (mkF m 4 #[rv a10_0] [(.int (0 : Int32))])) _
    refine XS.aloadN X1.here hx rfl (hb hby d10_4) rfl rfl ?_
    show Steps p.tables e below (T1.setTop (mkF m 5 #[rv a10_0] [(.ref a10_0), (.int (0 : Int32))])) _
    refine st2 _ ?_
    show Steps p.tables e below (T2.setTop (mkF m 8 #[rv a10_0] [(.ref ar), (.int (0 : Int32))])) _
    refine X2.arraylength hx (by rw [e2]; exact Ar3.1) (State.isArrayOf_alike hZ.alike Ar3.2.1) (g := (mkF m 8 #[rv a10_0] [(.ref ar), (.int (0 : Int32))])) rfl rfl (hb hby d10_8) _ ?_
    rw [len_of Sz3 Nn3]
    exact k_
  by_cases hc9_4 : (0 : Int32) = ln
  · skip
    have pre6 : ∀ t, Steps p.tables e below (T2.setTop (mkF m 12 #[rv a10_0] [])) t → Steps p.tables e below (s₁.setTop (entryFrame m #[(.ref a10_0)] 1)) t := by
      intro t_ k_
      refine pre5 _ ?_
      show Steps p.tables e below (T2.setTop (mkF m 9 #[rv a10_0] [(.int ln), (.int (0 : Int32))])) _
      refine XS.icmpNo X2.here hx rfl (hb hby d10_9) rfl (teq hc9_4).2 ?_
      exact k_
    obtain rfl : ln = (0 : Int32) := hc9_4.symm
    obtain ⟨T7, X7, e7, st7⟩ := getF X2 hx hZ hown (host := "") (Or.inl wo16) Via.refl e2 pf_F_a10_0_bytes (g := (mkF m 13 #[rv a10_0] [(.ref a10_0)])) rfl rfl (hb hby d10_13)
    obtain ⟨fs, hr, hrun, hended, hW, hsame⟩ := X7.leave (v := some (.ref ar)) (fun h => by rw [Bd.returns] at h; cases h)
    refine ⟨_, _, pre6 _ ?_, hrun, hended, _, _, rfl, ?_, ⟨_, rfl⟩, hW, hsame.mono (by decide) (by decide)⟩
    · show Steps p.tables e below (T2.setTop (mkF m 12 #[rv a10_0] [])) _
      refine XS.aloadN X2.here hx rfl (hb hby d10_12) rfl rfl ?_
      show Steps p.tables e below (T2.setTop (mkF m 13 #[rv a10_0] [(.ref a10_0)])) _
      refine st7 _ ?_
      show Steps p.tables e below (T7.setTop (mkF m 16 #[rv a10_0] [(.ref ar)])) _
      refine XS.goto X7.here hx rfl (pc0 := 16) (pc' := 30) rfl (hb hby d10_16) (by decide) (by decide) ?_
      show Steps p.tables e below (T7.setTop (mkF m 30 #[rv a10_0] [(.ref ar)])) _
      exact retOut X7 hx Bd.returns rfl (Or.inr (Or.inr (Or.inr (Or.inr ⟨rfl, rfl, rfl⟩)))) (hb hby d10_30) hr
    · show Q_rm_tb0 Z _ _ _ h0 n0 _ T7.heap _
      rw [e7]
      exact ⟨ar, rfl, N0, (Keep.refl h0 []), (Px.av pf_X_ar rfl)⟩
  · skip
    obtain ⟨T8, X8, e8, st8⟩ := getF X2 hx hZ hown (host := "") (Or.inl wo16) Via.refl e2 pf_F_a10_0_bytes (g := (mkF m 20 #[rv a10_0] [(.ref a10_0)])) rfl rfl (hb hby d10_20)
    obtain ⟨T9, X9, e9, st9⟩ := getF X8 hx hZ hown (host := "") (Or.inl wo27) Via.refl e8 pf_F_a10_0_size (g := (mkF m 24 #[rv a10_0] [(.ref a10_0), (.ref ar)])) rfl rfl (hb hby d10_24)
    obtain ⟨_, _, ⟨T10, L10, k10, n10⟩, -, X10, ⟨Lc10, hQ10, l10, y10, z10⟩, st10⟩ := Jvm.LawKit.callS X9 hx (y := MN7) hown (mvT hZ wo32) (mvT hZ wo33) (mvT hZ wo34) (mvT hZ wo35) (by decide) (backOf (W := 0) (rm_cs0 l Z a0 hw [] ar ln h0 n0 Z0 pf_X_ar (hle : (0 : Int32).toInt ≤ ln.toInt) (hc9_4 : ¬ ((0 : Int32) = ln))) hZ wo35 wo34 (by decide) (by decide)) (g := (mkF m 27 #[rv a10_0] [(.int (0 : Int32)), (.ref ar)])) rfl (by rw [hml]; rfl) (argsL := [(.ref ar), (.int (0 : Int32))]) (rest := []) (lenOf pd_7 rfl) rfl (by show 2 * 0 + _ ≤ _; exact Nat.le_of_eq rfl) (hb hby d10_27) (fun _ _ => ⟨rfl, e9, (by decide : 0 + 1 ≤ _), (by decide : 0 + 0 ≤ _)⟩)
    dsimp only [Pt.U, Pt.locs, Pt.cells, Pt.slots] at X10 l10 y10 z10 st10 hQ10
    rw [l10, y10, z10] at X10
    obtain ⟨b_10, rfl, N10q, K10q, hq10_0, hq10_1⟩ := hQ10
    have N11 := Fr.app N0 N10q
    have ne12 : a10_0 ≠ b_10 := Nat.ne_of_lt (Nat.lt_of_lt_of_le pf_F_a10_0_bytes.lt hq10_0)
    have ne13 : ar ≠ b_10 := Nat.ne_of_lt (Nat.lt_of_lt_of_le pf_X_ar.lt hq10_0)
    have g14 : n0 ≤ b_10 := Nat.le_trans Z0 hq10_0
    have bz15 : h0.size ≤ b_10 := Nat.le_trans (Keep.refl h0 []).1 hq10_0
    have K16 : Keep h0 T10.heap [] := (Keep.refl h0 []).trans K10q all0
    obtain ⟨fs, hr, hrun, hended, hW, hsame⟩ := X10.leave (v := some (.ref b_10)) (fun h => by rw [Bd.returns] at h; cases h)
    refine ⟨_, _, pre5 _ ?_, hrun, hended, _, _, rfl, ?_, ⟨_, rfl⟩, hW, hsame.mono (by decide) (by decide)⟩
    · show Steps p.tables e below (T2.setTop (mkF m 9 #[rv a10_0] [(.int ln), (.int (0 : Int32))])) _
      refine XS.icmpYes X2.here hx rfl (pc0 := 9) (pc' := 19) rfl (hb hby d10_9) rfl (feq hc9_4).2 (by decide) (by decide) ?_
      refine XS.aloadN X2.here hx rfl (hb hby d10_19) rfl rfl ?_
      show Steps p.tables e below (T2.setTop (mkF m 20 #[rv a10_0] [(.ref a10_0)])) _
      refine st8 _ ?_
      show Steps p.tables e below (T8.setTop (mkF m 23 #[rv a10_0] [(.ref ar)])) _
      refine XS.aloadN X8.here hx rfl (hb hby d10_23) rfl rfl ?_
      show Steps p.tables e below (T8.setTop (mkF m 24 #[rv a10_0] [(.ref a10_0), (.ref ar)])) _
      refine st9 _ ?_
      show Steps p.tables e below (T9.setTop (mkF m 27 #[rv a10_0] [(.int (0 : Int32)), (.ref ar)])) _
      refine st10 _ ?_
      show Steps p.tables e below (T10.setTop (mkF m 30 #[rv a10_0] [(.ref b_10)])) _
      exact retOut X10 hx Bd.returns rfl (Or.inr (Or.inr (Or.inr (Or.inr ⟨rfl, rfl, rfl⟩)))) (hb hby d10_30) hr
    · show Q_rm_tb0 Z _ _ _ h0 n0 _ T10.heap _
      exact ⟨b_10, rfl, N11, (K16), hq10_1⟩
theorem ef_rm_tb1 (m : MethodId) (x0 : Addr) : entryFrame m #[(.ref x0)] 1 = mkF m 0 #[rv x0] [] := by first | (simp [entryFrame, mkF, argsToLocals, Value.category]; done) | rfl
def Q_rm_tb1 (Z : State) (a10_0 : Addr) (ar : Addr) (ln : Int32) (x0 : Int32) (h0 : Heap) (n0 : Nat) (v : Option Value) (h : Heap) (L : List Loc) : Prop := ∃ (b : Addr), v = some (.ref b) ∧ Fr n0 L ∧ Keep h0 h [] ∧ (Av Z h b .byte (1 : Int32) [(.int x0)] (.int (0 : Int32)))
set_option maxRecDepth 65536 in
set_option maxHeartbeats 40000000 in
theorem rm_tb1 (l : Launch) (Z : State) (a0 : Array Value) (hw : ∀ d ∈ tables_1, d.before a0 Z = true) (ws : List Jvm.Cond) (a10_0 : Addr) (ar : Addr) (ln : Int32) (x0 : Int32) (h0 : Heap) (n0 : Nat) (Z0 : n0 ≤ h0.size) (pf_F_a10_0_bytes : Fld Z h0 a10_0 "com/example/dido/dido/keys/KeyWriter" "bytes" "[B" (.ref ar)) (pf_F_a10_0_size : Fld Z h0 a10_0 "com/example/dido/dido/keys/KeyWriter" "size" "I" (.int (1 : Int32))) (pf_X_ar : Px Z h0 ar .byte ln [(.int x0)]) (hle : (1 : Int32).toInt ≤ ln.toInt) :
    MetFree l (⟨"com/example/dido/dido/keys/KeyWriter", "toByteArray", "()[B"⟩ : MethodName) (head1 (Jvm.Cond.code (⟨"com/example/dido/dido/keys/KeyWriter", "toByteArray", "()[B"⟩ : MethodName) prog_15_method_12_code 1 (some (.array .byte)) :: ws) ({ frames := 2, cells := 1, slots := 1, locals := 32 } : Room)) (fun a U => a = #[(.ref a10_0)] ∧ Z.Warmed39 U.vm ∧ U.heap = h0) (fun _ _ _ _ _ => True) (fun _ U o U' => ∃ v L, o = .returned v ∧ Q_rm_tb1 Z a10_0 ar ln x0 h0 n0 v U'.heap L ∧ FrameEnd U o U' L ({ frames := 2, cells := 1, slots := 1, locals := 32 } : Room).cells ({ frames := 2, cells := 1, slots := 1, locals := 32 } : Room).slots) := by
  refine MetFree.of_bodySF (plainFor_of_name pn_com_example_dido_dido_keys_KeyWriter) hisR ?_
  intro p e s m args below meth c s₁ Bd hml0 hP hK
  obtain ⟨rfl, hZ, hh⟩ := hP
  have hx := Bd.exec
  have hby := Bd.bytes
  have hml : c.maxLocals = 1 := hml0
  have hown : s.vm.findClass "com/example/dido/dido/keys/KeyWriter" = some m.cls := findClass_of_methodNamed Bd.named
  have hnm := (name_of_methodNamed Bd.named Bd.method).1
  have X0 : Stand p l e ({ frames := 2, cells := 1, slots := 1, locals := 32 } : Room) s m #[(.ref a10_0)] below meth c s₁ [] 0 0 := Stand.of_body Bd
  have e0 : s₁.heap = h0 := by rw [← hh, Bd.state]; rfl
  have N0 := Fr.nil n0
  have pre0 : ∀ t, Steps p.tables e below (s₁.setTop (mkF m 0 #[rv a10_0] [])) t → Steps p.tables e below (s₁.setTop (entryFrame m #[(.ref a10_0)] 1)) t := fun t k => castTop (ef_rm_tb1 m a10_0) k
  have wo16 := hw _ (List.mem_of_getElem? (i := 16) rfl)
  have wo27 := hw _ (List.mem_of_getElem? (i := 27) rfl)
  have wo32 := hw _ (List.mem_of_getElem? (i := 32) rfl)
  have wo33 := hw _ (List.mem_of_getElem? (i := 33) rfl)
  have wo34 := hw _ (List.mem_of_getElem? (i := 34) rfl)
  have wo35 := hw _ (List.mem_of_getElem? (i := 35) rfl)
  obtain ⟨T1, X1, e1, st1⟩ := getF X0 hx hZ hown (host := "") (Or.inl wo27) Via.refl e0 pf_F_a10_0_size (g := (mkF m 1 #[rv a10_0] [(.ref a10_0)])) rfl rfl (hb hby d10_1)
  obtain ⟨T2, X2, e2, st2⟩ := getF X1 hx hZ hown (host := "") (Or.inl wo16) Via.refl e1 pf_F_a10_0_bytes (g := (mkF m 5 #[rv a10_0] [(.ref a10_0), (.int (1 : Int32))])) rfl rfl (hb hby d10_5)
  obtain ⟨re3, kk3, cl3, Ar3, qq3, Sz3, Nn3, Hs3, Gf3⟩ := id pf_X_ar
  have pre5 : ∀ t, Steps p.tables e below (T2.setTop (mkF m 9 #[rv a10_0] [(.int ln), (.int (1 : Int32))])) t → Steps p.tables e below (s₁.setTop (entryFrame m #[(.ref a10_0)] 1)) t := by
    intro t_ k_
    refine pre0 _ ?_
    show Steps p.tables e below (s₁.setTop (mkF m 0 #[rv a10_0] [])) _
    refine XS.aloadN X0.here hx rfl (hb hby d10_0) rfl rfl ?_
    show Steps p.tables e below (s₁.setTop (mkF m 1 #[rv a10_0] [(.ref a10_0)])) _
    refine st1 _ ?_
    show Steps p.tables e below (T1.setTop (mkF m 4 #[rv a10_0] [(.int (1 : Int32))])) _
    refine XS.aloadN X1.here hx rfl (hb hby d10_4) rfl rfl ?_
    show Steps p.tables e below (T1.setTop (mkF m 5 #[rv a10_0] [(.ref a10_0), (.int (1 : Int32))])) _
    refine st2 _ ?_
    show Steps p.tables e below (T2.setTop (mkF m 8 #[rv a10_0] [(.ref ar), (.int (1 : Int32))])) _
    refine X2.arraylength hx (by rw [e2]; exact Ar3.1) (State.isArrayOf_alike hZ.alike Ar3.2.1) (g := (mkF m 8 #[rv a10_0] [(.ref ar), (.int (1 : Int32))])) rfl rfl (hb hby d10_8) _ ?_
    rw [len_of Sz3 Nn3]
    exact k_
  by_cases hc9_4 : (1 : Int32) = ln
  · skip
    have pre6 : ∀ t, Steps p.tables e below (T2.setTop (mkF m 12 #[rv a10_0] [])) t → Steps p.tables e below (s₁.setTop (entryFrame m #[(.ref a10_0)] 1)) t := by
      intro t_ k_
      refine pre5 _ ?_
      show Steps p.tables e below (T2.setTop (mkF m 9 #[rv a10_0] [(.int ln), (.int (1 : Int32))])) _
      refine XS.icmpNo X2.here hx rfl (hb hby d10_9) rfl (teq hc9_4).2 ?_
      exact k_
    obtain rfl : ln = (1 : Int32) := hc9_4.symm
    obtain ⟨T7, X7, e7, st7⟩ := getF X2 hx hZ hown (host := "") (Or.inl wo16) Via.refl e2 pf_F_a10_0_bytes (g := (mkF m 13 #[rv a10_0] [(.ref a10_0)])) rfl rfl (hb hby d10_13)
    obtain ⟨fs, hr, hrun, hended, hW, hsame⟩ := X7.leave (v := some (.ref ar)) (fun h => by rw [Bd.returns] at h; cases h)
    refine ⟨_, _, pre6 _ ?_, hrun, hended, _, _, rfl, ?_, ⟨_, rfl⟩, hW, hsame.mono (by decide) (by decide)⟩
    · show Steps p.tables e below (T2.setTop (mkF m 12 #[rv a10_0] [])) _
      refine XS.aloadN X2.here hx rfl (hb hby d10_12) rfl rfl ?_
      show Steps p.tables e below (T2.setTop (mkF m 13 #[rv a10_0] [(.ref a10_0)])) _
      refine st7 _ ?_
      show Steps p.tables e below (T7.setTop (mkF m 16 #[rv a10_0] [(.ref ar)])) _
      refine XS.goto X7.here hx rfl (pc0 := 16) (pc' := 30) rfl (hb hby d10_16) (by decide) (by decide) ?_
      show Steps p.tables e below (T7.setTop (mkF m 30 #[rv a10_0] [(.ref ar)])) _
      exact retOut X7 hx Bd.returns rfl (Or.inr (Or.inr (Or.inr (Or.inr ⟨rfl, rfl, rfl⟩)))) (hb hby d10_30) hr
    · show Q_rm_tb1 Z _ _ _ _ h0 n0 _ T7.heap _
      rw [e7]
      exact ⟨ar, rfl, N0, (Keep.refl h0 []), (Px.av pf_X_ar rfl)⟩
  · skip
    obtain ⟨T8, X8, e8, st8⟩ := getF X2 hx hZ hown (host := "") (Or.inl wo16) Via.refl e2 pf_F_a10_0_bytes (g := (mkF m 20 #[rv a10_0] [(.ref a10_0)])) rfl rfl (hb hby d10_20)
    obtain ⟨T9, X9, e9, st9⟩ := getF X8 hx hZ hown (host := "") (Or.inl wo27) Via.refl e8 pf_F_a10_0_size (g := (mkF m 24 #[rv a10_0] [(.ref a10_0), (.ref ar)])) rfl rfl (hb hby d10_24)
    obtain ⟨_, _, ⟨T10, L10, k10, n10⟩, -, X10, ⟨Lc10, hQ10, l10, y10, z10⟩, st10⟩ := Jvm.LawKit.callS X9 hx (y := MN7) hown (mvT hZ wo32) (mvT hZ wo33) (mvT hZ wo34) (mvT hZ wo35) (by decide) (backOf (W := 0) (rm_cs1 l Z a0 hw [] ar ln x0 h0 n0 Z0 pf_X_ar (hle : (1 : Int32).toInt ≤ ln.toInt) (hc9_4 : ¬ ((1 : Int32) = ln))) hZ wo35 wo34 (by decide) (by decide)) (g := (mkF m 27 #[rv a10_0] [(.int (1 : Int32)), (.ref ar)])) rfl (by rw [hml]; rfl) (argsL := [(.ref ar), (.int (1 : Int32))]) (rest := []) (lenOf pd_7 rfl) rfl (by show 2 * 0 + _ ≤ _; exact Nat.le_of_eq rfl) (hb hby d10_27) (fun _ _ => ⟨rfl, e9, (by decide : 0 + 1 ≤ _), (by decide : 0 + 1 ≤ _)⟩)
    dsimp only [Pt.U, Pt.locs, Pt.cells, Pt.slots] at X10 l10 y10 z10 st10 hQ10
    rw [l10, y10, z10] at X10
    obtain ⟨b_10, rfl, N10q, K10q, hq10_0, hq10_1⟩ := hQ10
    have N11 := Fr.app N0 N10q
    have ne12 : a10_0 ≠ b_10 := Nat.ne_of_lt (Nat.lt_of_lt_of_le pf_F_a10_0_bytes.lt hq10_0)
    have ne13 : ar ≠ b_10 := Nat.ne_of_lt (Nat.lt_of_lt_of_le pf_X_ar.lt hq10_0)
    have g14 : n0 ≤ b_10 := Nat.le_trans Z0 hq10_0
    have bz15 : h0.size ≤ b_10 := Nat.le_trans (Keep.refl h0 []).1 hq10_0
    have K16 : Keep h0 T10.heap [] := (Keep.refl h0 []).trans K10q all0
    obtain ⟨fs, hr, hrun, hended, hW, hsame⟩ := X10.leave (v := some (.ref b_10)) (fun h => by rw [Bd.returns] at h; cases h)
    refine ⟨_, _, pre5 _ ?_, hrun, hended, _, _, rfl, ?_, ⟨_, rfl⟩, hW, hsame.mono (by decide) (by decide)⟩
    · show Steps p.tables e below (T2.setTop (mkF m 9 #[rv a10_0] [(.int ln), (.int (1 : Int32))])) _
      refine XS.icmpYes X2.here hx rfl (pc0 := 9) (pc' := 19) rfl (hb hby d10_9) rfl (feq hc9_4).2 (by decide) (by decide) ?_
      refine XS.aloadN X2.here hx rfl (hb hby d10_19) rfl rfl ?_
      show Steps p.tables e below (T2.setTop (mkF m 20 #[rv a10_0] [(.ref a10_0)])) _
      refine st8 _ ?_
      show Steps p.tables e below (T8.setTop (mkF m 23 #[rv a10_0] [(.ref ar)])) _
      refine XS.aloadN X8.here hx rfl (hb hby d10_23) rfl rfl ?_
      show Steps p.tables e below (T8.setTop (mkF m 24 #[rv a10_0] [(.ref a10_0), (.ref ar)])) _
      refine st9 _ ?_
      show Steps p.tables e below (T9.setTop (mkF m 27 #[rv a10_0] [(.int (1 : Int32)), (.ref ar)])) _
      refine st10 _ ?_
      show Steps p.tables e below (T10.setTop (mkF m 30 #[rv a10_0] [(.ref b_10)])) _
      exact retOut X10 hx Bd.returns rfl (Or.inr (Or.inr (Or.inr (Or.inr ⟨rfl, rfl, rfl⟩)))) (hb hby d10_30) hr
    · show Q_rm_tb1 Z _ _ _ _ h0 n0 _ T10.heap _
      exact ⟨b_10, rfl, N11, (K16), hq10_1⟩
theorem ef_rm_tb2 (m : MethodId) (x0 : Addr) : entryFrame m #[(.ref x0)] 1 = mkF m 0 #[rv x0] [] := by first | (simp [entryFrame, mkF, argsToLocals, Value.category]; done) | rfl
def Q_rm_tb2 (Z : State) (a10_0 : Addr) (ar : Addr) (ln : Int32) (x0 : Int32) (x1 : Int32) (h0 : Heap) (n0 : Nat) (v : Option Value) (h : Heap) (L : List Loc) : Prop := ∃ (b : Addr), v = some (.ref b) ∧ Fr n0 L ∧ Keep h0 h [] ∧ (Av Z h b .byte (2 : Int32) [(.int x0), (.int x1)] (.int (0 : Int32)))
set_option maxRecDepth 65536 in
set_option maxHeartbeats 40000000 in
theorem rm_tb2 (l : Launch) (Z : State) (a0 : Array Value) (hw : ∀ d ∈ tables_1, d.before a0 Z = true) (ws : List Jvm.Cond) (a10_0 : Addr) (ar : Addr) (ln : Int32) (x0 : Int32) (x1 : Int32) (h0 : Heap) (n0 : Nat) (Z0 : n0 ≤ h0.size) (pf_F_a10_0_bytes : Fld Z h0 a10_0 "com/example/dido/dido/keys/KeyWriter" "bytes" "[B" (.ref ar)) (pf_F_a10_0_size : Fld Z h0 a10_0 "com/example/dido/dido/keys/KeyWriter" "size" "I" (.int (2 : Int32))) (pf_X_ar : Px Z h0 ar .byte ln [(.int x0), (.int x1)]) (hle : (2 : Int32).toInt ≤ ln.toInt) :
    MetFree l (⟨"com/example/dido/dido/keys/KeyWriter", "toByteArray", "()[B"⟩ : MethodName) (head1 (Jvm.Cond.code (⟨"com/example/dido/dido/keys/KeyWriter", "toByteArray", "()[B"⟩ : MethodName) prog_15_method_12_code 1 (some (.array .byte)) :: ws) ({ frames := 2, cells := 1, slots := 2, locals := 32 } : Room)) (fun a U => a = #[(.ref a10_0)] ∧ Z.Warmed39 U.vm ∧ U.heap = h0) (fun _ _ _ _ _ => True) (fun _ U o U' => ∃ v L, o = .returned v ∧ Q_rm_tb2 Z a10_0 ar ln x0 x1 h0 n0 v U'.heap L ∧ FrameEnd U o U' L ({ frames := 2, cells := 1, slots := 2, locals := 32 } : Room).cells ({ frames := 2, cells := 1, slots := 2, locals := 32 } : Room).slots) := by
  refine MetFree.of_bodySF (plainFor_of_name pn_com_example_dido_dido_keys_KeyWriter) hisR ?_
  intro p e s m args below meth c s₁ Bd hml0 hP hK
  obtain ⟨rfl, hZ, hh⟩ := hP
  have hx := Bd.exec
  have hby := Bd.bytes
  have hml : c.maxLocals = 1 := hml0
  have hown : s.vm.findClass "com/example/dido/dido/keys/KeyWriter" = some m.cls := findClass_of_methodNamed Bd.named
  have hnm := (name_of_methodNamed Bd.named Bd.method).1
  have X0 : Stand p l e ({ frames := 2, cells := 1, slots := 2, locals := 32 } : Room) s m #[(.ref a10_0)] below meth c s₁ [] 0 0 := Stand.of_body Bd
  have e0 : s₁.heap = h0 := by rw [← hh, Bd.state]; rfl
  have N0 := Fr.nil n0
  have pre0 : ∀ t, Steps p.tables e below (s₁.setTop (mkF m 0 #[rv a10_0] [])) t → Steps p.tables e below (s₁.setTop (entryFrame m #[(.ref a10_0)] 1)) t := fun t k => castTop (ef_rm_tb2 m a10_0) k
  have wo16 := hw _ (List.mem_of_getElem? (i := 16) rfl)
  have wo27 := hw _ (List.mem_of_getElem? (i := 27) rfl)
  have wo32 := hw _ (List.mem_of_getElem? (i := 32) rfl)
  have wo33 := hw _ (List.mem_of_getElem? (i := 33) rfl)
  have wo34 := hw _ (List.mem_of_getElem? (i := 34) rfl)
  have wo35 := hw _ (List.mem_of_getElem? (i := 35) rfl)
  obtain ⟨T1, X1, e1, st1⟩ := getF X0 hx hZ hown (host := "") (Or.inl wo27) Via.refl e0 pf_F_a10_0_size (g := (mkF m 1 #[rv a10_0] [(.ref a10_0)])) rfl rfl (hb hby d10_1)
  obtain ⟨T2, X2, e2, st2⟩ := getF X1 hx hZ hown (host := "") (Or.inl wo16) Via.refl e1 pf_F_a10_0_bytes (g := (mkF m 5 #[rv a10_0] [(.ref a10_0), (.int (2 : Int32))])) rfl rfl (hb hby d10_5)
  obtain ⟨re3, kk3, cl3, Ar3, qq3, Sz3, Nn3, Hs3, Gf3⟩ := id pf_X_ar
  have pre5 : ∀ t, Steps p.tables e below (T2.setTop (mkF m 9 #[rv a10_0] [(.int ln), (.int (2 : Int32))])) t → Steps p.tables e below (s₁.setTop (entryFrame m #[(.ref a10_0)] 1)) t := by
    intro t_ k_
    refine pre0 _ ?_
    show Steps p.tables e below (s₁.setTop (mkF m 0 #[rv a10_0] [])) _
    refine XS.aloadN X0.here hx rfl (hb hby d10_0) rfl rfl ?_
    show Steps p.tables e below (s₁.setTop (mkF m 1 #[rv a10_0] [(.ref a10_0)])) _
    refine st1 _ ?_
    show Steps p.tables e below (T1.setTop (mkF m 4 #[rv a10_0] [(.int (2 : Int32))])) _
    refine XS.aloadN X1.here hx rfl (hb hby d10_4) rfl rfl ?_
    show Steps p.tables e below (T1.setTop (mkF m 5 #[rv a10_0] [(.ref a10_0), (.int (2 : Int32))])) _
    refine st2 _ ?_
    show Steps p.tables e below (T2.setTop (mkF m 8 #[rv a10_0] [(.ref ar), (.int (2 : Int32))])) _
    refine X2.arraylength hx (by rw [e2]; exact Ar3.1) (State.isArrayOf_alike hZ.alike Ar3.2.1) (g := (mkF m 8 #[rv a10_0] [(.ref ar), (.int (2 : Int32))])) rfl rfl (hb hby d10_8) _ ?_
    rw [len_of Sz3 Nn3]
    exact k_
  by_cases hc9_4 : (2 : Int32) = ln
  · skip
    have pre6 : ∀ t, Steps p.tables e below (T2.setTop (mkF m 12 #[rv a10_0] [])) t → Steps p.tables e below (s₁.setTop (entryFrame m #[(.ref a10_0)] 1)) t := by
      intro t_ k_
      refine pre5 _ ?_
      show Steps p.tables e below (T2.setTop (mkF m 9 #[rv a10_0] [(.int ln), (.int (2 : Int32))])) _
      refine XS.icmpNo X2.here hx rfl (hb hby d10_9) rfl (teq hc9_4).2 ?_
      exact k_
    obtain rfl : ln = (2 : Int32) := hc9_4.symm
    obtain ⟨T7, X7, e7, st7⟩ := getF X2 hx hZ hown (host := "") (Or.inl wo16) Via.refl e2 pf_F_a10_0_bytes (g := (mkF m 13 #[rv a10_0] [(.ref a10_0)])) rfl rfl (hb hby d10_13)
    obtain ⟨fs, hr, hrun, hended, hW, hsame⟩ := X7.leave (v := some (.ref ar)) (fun h => by rw [Bd.returns] at h; cases h)
    refine ⟨_, _, pre6 _ ?_, hrun, hended, _, _, rfl, ?_, ⟨_, rfl⟩, hW, hsame.mono (by decide) (by decide)⟩
    · show Steps p.tables e below (T2.setTop (mkF m 12 #[rv a10_0] [])) _
      refine XS.aloadN X2.here hx rfl (hb hby d10_12) rfl rfl ?_
      show Steps p.tables e below (T2.setTop (mkF m 13 #[rv a10_0] [(.ref a10_0)])) _
      refine st7 _ ?_
      show Steps p.tables e below (T7.setTop (mkF m 16 #[rv a10_0] [(.ref ar)])) _
      refine XS.goto X7.here hx rfl (pc0 := 16) (pc' := 30) rfl (hb hby d10_16) (by decide) (by decide) ?_
      show Steps p.tables e below (T7.setTop (mkF m 30 #[rv a10_0] [(.ref ar)])) _
      exact retOut X7 hx Bd.returns rfl (Or.inr (Or.inr (Or.inr (Or.inr ⟨rfl, rfl, rfl⟩)))) (hb hby d10_30) hr
    · show Q_rm_tb2 Z _ _ _ _ _ h0 n0 _ T7.heap _
      rw [e7]
      exact ⟨ar, rfl, N0, (Keep.refl h0 []), (Px.av pf_X_ar rfl)⟩
  · skip
    obtain ⟨T8, X8, e8, st8⟩ := getF X2 hx hZ hown (host := "") (Or.inl wo16) Via.refl e2 pf_F_a10_0_bytes (g := (mkF m 20 #[rv a10_0] [(.ref a10_0)])) rfl rfl (hb hby d10_20)
    obtain ⟨T9, X9, e9, st9⟩ := getF X8 hx hZ hown (host := "") (Or.inl wo27) Via.refl e8 pf_F_a10_0_size (g := (mkF m 24 #[rv a10_0] [(.ref a10_0), (.ref ar)])) rfl rfl (hb hby d10_24)
    obtain ⟨_, _, ⟨T10, L10, k10, n10⟩, -, X10, ⟨Lc10, hQ10, l10, y10, z10⟩, st10⟩ := Jvm.LawKit.callS X9 hx (y := MN7) hown (mvT hZ wo32) (mvT hZ wo33) (mvT hZ wo34) (mvT hZ wo35) (by decide) (backOf (W := 0) (rm_cs2 l Z a0 hw [] ar ln x0 x1 h0 n0 Z0 pf_X_ar (hle : (2 : Int32).toInt ≤ ln.toInt) (hc9_4 : ¬ ((2 : Int32) = ln))) hZ wo35 wo34 (by decide) (by decide)) (g := (mkF m 27 #[rv a10_0] [(.int (2 : Int32)), (.ref ar)])) rfl (by rw [hml]; rfl) (argsL := [(.ref ar), (.int (2 : Int32))]) (rest := []) (lenOf pd_7 rfl) rfl (by show 2 * 0 + _ ≤ _; exact Nat.le_of_eq rfl) (hb hby d10_27) (fun _ _ => ⟨rfl, e9, (by decide : 0 + 1 ≤ _), (by decide : 0 + 2 ≤ _)⟩)
    dsimp only [Pt.U, Pt.locs, Pt.cells, Pt.slots] at X10 l10 y10 z10 st10 hQ10
    rw [l10, y10, z10] at X10
    obtain ⟨b_10, rfl, N10q, K10q, hq10_0, hq10_1⟩ := hQ10
    have N11 := Fr.app N0 N10q
    have ne12 : a10_0 ≠ b_10 := Nat.ne_of_lt (Nat.lt_of_lt_of_le pf_F_a10_0_bytes.lt hq10_0)
    have ne13 : ar ≠ b_10 := Nat.ne_of_lt (Nat.lt_of_lt_of_le pf_X_ar.lt hq10_0)
    have g14 : n0 ≤ b_10 := Nat.le_trans Z0 hq10_0
    have bz15 : h0.size ≤ b_10 := Nat.le_trans (Keep.refl h0 []).1 hq10_0
    have K16 : Keep h0 T10.heap [] := (Keep.refl h0 []).trans K10q all0
    obtain ⟨fs, hr, hrun, hended, hW, hsame⟩ := X10.leave (v := some (.ref b_10)) (fun h => by rw [Bd.returns] at h; cases h)
    refine ⟨_, _, pre5 _ ?_, hrun, hended, _, _, rfl, ?_, ⟨_, rfl⟩, hW, hsame.mono (by decide) (by decide)⟩
    · show Steps p.tables e below (T2.setTop (mkF m 9 #[rv a10_0] [(.int ln), (.int (2 : Int32))])) _
      refine XS.icmpYes X2.here hx rfl (pc0 := 9) (pc' := 19) rfl (hb hby d10_9) rfl (feq hc9_4).2 (by decide) (by decide) ?_
      refine XS.aloadN X2.here hx rfl (hb hby d10_19) rfl rfl ?_
      show Steps p.tables e below (T2.setTop (mkF m 20 #[rv a10_0] [(.ref a10_0)])) _
      refine st8 _ ?_
      show Steps p.tables e below (T8.setTop (mkF m 23 #[rv a10_0] [(.ref ar)])) _
      refine XS.aloadN X8.here hx rfl (hb hby d10_23) rfl rfl ?_
      show Steps p.tables e below (T8.setTop (mkF m 24 #[rv a10_0] [(.ref a10_0), (.ref ar)])) _
      refine st9 _ ?_
      show Steps p.tables e below (T9.setTop (mkF m 27 #[rv a10_0] [(.int (2 : Int32)), (.ref ar)])) _
      refine st10 _ ?_
      show Steps p.tables e below (T10.setTop (mkF m 30 #[rv a10_0] [(.ref b_10)])) _
      exact retOut X10 hx Bd.returns rfl (Or.inr (Or.inr (Or.inr (Or.inr ⟨rfl, rfl, rfl⟩)))) (hb hby d10_30) hr
    · show Q_rm_tb2 Z _ _ _ _ _ h0 n0 _ T10.heap _
      exact ⟨b_10, rfl, N11, (K16), hq10_1⟩
theorem ef_rm_tb3 (m : MethodId) (x0 : Addr) : entryFrame m #[(.ref x0)] 1 = mkF m 0 #[rv x0] [] := by first | (simp [entryFrame, mkF, argsToLocals, Value.category]; done) | rfl
def Q_rm_tb3 (Z : State) (a10_0 : Addr) (ar : Addr) (ln : Int32) (x0 : Int32) (x1 : Int32) (x2 : Int32) (h0 : Heap) (n0 : Nat) (v : Option Value) (h : Heap) (L : List Loc) : Prop := ∃ (b : Addr), v = some (.ref b) ∧ Fr n0 L ∧ Keep h0 h [] ∧ (Av Z h b .byte (3 : Int32) [(.int x0), (.int x1), (.int x2)] (.int (0 : Int32)))
set_option maxRecDepth 65536 in
set_option maxHeartbeats 40000000 in
theorem rm_tb3 (l : Launch) (Z : State) (a0 : Array Value) (hw : ∀ d ∈ tables_1, d.before a0 Z = true) (ws : List Jvm.Cond) (a10_0 : Addr) (ar : Addr) (ln : Int32) (x0 : Int32) (x1 : Int32) (x2 : Int32) (h0 : Heap) (n0 : Nat) (Z0 : n0 ≤ h0.size) (pf_F_a10_0_bytes : Fld Z h0 a10_0 "com/example/dido/dido/keys/KeyWriter" "bytes" "[B" (.ref ar)) (pf_F_a10_0_size : Fld Z h0 a10_0 "com/example/dido/dido/keys/KeyWriter" "size" "I" (.int (3 : Int32))) (pf_X_ar : Px Z h0 ar .byte ln [(.int x0), (.int x1), (.int x2)]) (hle : (3 : Int32).toInt ≤ ln.toInt) :
    MetFree l (⟨"com/example/dido/dido/keys/KeyWriter", "toByteArray", "()[B"⟩ : MethodName) (head1 (Jvm.Cond.code (⟨"com/example/dido/dido/keys/KeyWriter", "toByteArray", "()[B"⟩ : MethodName) prog_15_method_12_code 1 (some (.array .byte)) :: ws) ({ frames := 2, cells := 1, slots := 3, locals := 32 } : Room)) (fun a U => a = #[(.ref a10_0)] ∧ Z.Warmed39 U.vm ∧ U.heap = h0) (fun _ _ _ _ _ => True) (fun _ U o U' => ∃ v L, o = .returned v ∧ Q_rm_tb3 Z a10_0 ar ln x0 x1 x2 h0 n0 v U'.heap L ∧ FrameEnd U o U' L ({ frames := 2, cells := 1, slots := 3, locals := 32 } : Room).cells ({ frames := 2, cells := 1, slots := 3, locals := 32 } : Room).slots) := by
  refine MetFree.of_bodySF (plainFor_of_name pn_com_example_dido_dido_keys_KeyWriter) hisR ?_
  intro p e s m args below meth c s₁ Bd hml0 hP hK
  obtain ⟨rfl, hZ, hh⟩ := hP
  have hx := Bd.exec
  have hby := Bd.bytes
  have hml : c.maxLocals = 1 := hml0
  have hown : s.vm.findClass "com/example/dido/dido/keys/KeyWriter" = some m.cls := findClass_of_methodNamed Bd.named
  have hnm := (name_of_methodNamed Bd.named Bd.method).1
  have X0 : Stand p l e ({ frames := 2, cells := 1, slots := 3, locals := 32 } : Room) s m #[(.ref a10_0)] below meth c s₁ [] 0 0 := Stand.of_body Bd
  have e0 : s₁.heap = h0 := by rw [← hh, Bd.state]; rfl
  have N0 := Fr.nil n0
  have pre0 : ∀ t, Steps p.tables e below (s₁.setTop (mkF m 0 #[rv a10_0] [])) t → Steps p.tables e below (s₁.setTop (entryFrame m #[(.ref a10_0)] 1)) t := fun t k => castTop (ef_rm_tb3 m a10_0) k
  have wo16 := hw _ (List.mem_of_getElem? (i := 16) rfl)
  have wo27 := hw _ (List.mem_of_getElem? (i := 27) rfl)
  have wo32 := hw _ (List.mem_of_getElem? (i := 32) rfl)
  have wo33 := hw _ (List.mem_of_getElem? (i := 33) rfl)
  have wo34 := hw _ (List.mem_of_getElem? (i := 34) rfl)
  have wo35 := hw _ (List.mem_of_getElem? (i := 35) rfl)
  obtain ⟨T1, X1, e1, st1⟩ := getF X0 hx hZ hown (host := "") (Or.inl wo27) Via.refl e0 pf_F_a10_0_size (g := (mkF m 1 #[rv a10_0] [(.ref a10_0)])) rfl rfl (hb hby d10_1)
  obtain ⟨T2, X2, e2, st2⟩ := getF X1 hx hZ hown (host := "") (Or.inl wo16) Via.refl e1 pf_F_a10_0_bytes (g := (mkF m 5 #[rv a10_0] [(.ref a10_0), (.int (3 : Int32))])) rfl rfl (hb hby d10_5)
  obtain ⟨re3, kk3, cl3, Ar3, qq3, Sz3, Nn3, Hs3, Gf3⟩ := id pf_X_ar
  have pre5 : ∀ t, Steps p.tables e below (T2.setTop (mkF m 9 #[rv a10_0] [(.int ln), (.int (3 : Int32))])) t → Steps p.tables e below (s₁.setTop (entryFrame m #[(.ref a10_0)] 1)) t := by
    intro t_ k_
    refine pre0 _ ?_
    show Steps p.tables e below (s₁.setTop (mkF m 0 #[rv a10_0] [])) _
    refine XS.aloadN X0.here hx rfl (hb hby d10_0) rfl rfl ?_
    show Steps p.tables e below (s₁.setTop (mkF m 1 #[rv a10_0] [(.ref a10_0)])) _
    refine st1 _ ?_
    show Steps p.tables e below (T1.setTop (mkF m 4 #[rv a10_0] [(.int (3 : Int32))])) _
    refine XS.aloadN X1.here hx rfl (hb hby d10_4) rfl rfl ?_
    show Steps p.tables e below (T1.setTop (mkF m 5 #[rv a10_0] [(.ref a10_0), (.int (3 : Int32))])) _
    refine st2 _ ?_
    show Steps p.tables e below (T2.setTop (mkF m 8 #[rv a10_0] [(.ref ar), (.int (3 : Int32))])) _
    refine X2.arraylength hx (by rw [e2]; exact Ar3.1) (State.isArrayOf_alike hZ.alike Ar3.2.1) (g := (mkF m 8 #[rv a10_0] [(.ref ar), (.int (3 : Int32))])) rfl rfl (hb hby d10_8) _ ?_
    rw [len_of Sz3 Nn3]
    exact k_
  by_cases hc9_4 : (3 : Int32) = ln
  · skip
    have pre6 : ∀ t, Steps p.tables e below (T2.setTop (mkF m 12 #[rv a10_0] [])) t → Steps p.tables e below (s₁.setTop (entryFrame m #[(.ref a10_0)] 1)) t := by
      intro t_ k_
      refine pre5 _ ?_
      show Steps p.tables e below (T2.setTop (mkF m 9 #[rv a10_0] [(.int ln), (.int (3 : Int32))])) _
      refine XS.icmpNo X2.here hx rfl (hb hby d10_9) rfl (teq hc9_4).2 ?_
      exact k_
    obtain rfl : ln = (3 : Int32) := hc9_4.symm
    obtain ⟨T7, X7, e7, st7⟩ := getF X2 hx hZ hown (host := "") (Or.inl wo16) Via.refl e2 pf_F_a10_0_bytes (g := (mkF m 13 #[rv a10_0] [(.ref a10_0)])) rfl rfl (hb hby d10_13)
    obtain ⟨fs, hr, hrun, hended, hW, hsame⟩ := X7.leave (v := some (.ref ar)) (fun h => by rw [Bd.returns] at h; cases h)
    refine ⟨_, _, pre6 _ ?_, hrun, hended, _, _, rfl, ?_, ⟨_, rfl⟩, hW, hsame.mono (by decide) (by decide)⟩
    · show Steps p.tables e below (T2.setTop (mkF m 12 #[rv a10_0] [])) _
      refine XS.aloadN X2.here hx rfl (hb hby d10_12) rfl rfl ?_
      show Steps p.tables e below (T2.setTop (mkF m 13 #[rv a10_0] [(.ref a10_0)])) _
      refine st7 _ ?_
      show Steps p.tables e below (T7.setTop (mkF m 16 #[rv a10_0] [(.ref ar)])) _
      refine XS.goto X7.here hx rfl (pc0 := 16) (pc' := 30) rfl (hb hby d10_16) (by decide) (by decide) ?_
      show Steps p.tables e below (T7.setTop (mkF m 30 #[rv a10_0] [(.ref ar)])) _
      exact retOut X7 hx Bd.returns rfl (Or.inr (Or.inr (Or.inr (Or.inr ⟨rfl, rfl, rfl⟩)))) (hb hby d10_30) hr
    · show Q_rm_tb3 Z _ _ _ _ _ _ h0 n0 _ T7.heap _
      rw [e7]
      exact ⟨ar, rfl, N0, (Keep.refl h0 []), (Px.av pf_X_ar rfl)⟩
  · skip
    obtain ⟨T8, X8, e8, st8⟩ := getF X2 hx hZ hown (host := "") (Or.inl wo16) Via.refl e2 pf_F_a10_0_bytes (g := (mkF m 20 #[rv a10_0] [(.ref a10_0)])) rfl rfl (hb hby d10_20)
    obtain ⟨T9, X9, e9, st9⟩ := getF X8 hx hZ hown (host := "") (Or.inl wo27) Via.refl e8 pf_F_a10_0_size (g := (mkF m 24 #[rv a10_0] [(.ref a10_0), (.ref ar)])) rfl rfl (hb hby d10_24)
    obtain ⟨_, _, ⟨T10, L10, k10, n10⟩, -, X10, ⟨Lc10, hQ10, l10, y10, z10⟩, st10⟩ := Jvm.LawKit.callS X9 hx (y := MN7) hown (mvT hZ wo32) (mvT hZ wo33) (mvT hZ wo34) (mvT hZ wo35) (by decide) (backOf (W := 0) (rm_cs3 l Z a0 hw [] ar ln x0 x1 x2 h0 n0 Z0 pf_X_ar (hle : (3 : Int32).toInt ≤ ln.toInt) (hc9_4 : ¬ ((3 : Int32) = ln))) hZ wo35 wo34 (by decide) (by decide)) (g := (mkF m 27 #[rv a10_0] [(.int (3 : Int32)), (.ref ar)])) rfl (by rw [hml]; rfl) (argsL := [(.ref ar), (.int (3 : Int32))]) (rest := []) (lenOf pd_7 rfl) rfl (by show 2 * 0 + _ ≤ _; exact Nat.le_of_eq rfl) (hb hby d10_27) (fun _ _ => ⟨rfl, e9, (by decide : 0 + 1 ≤ _), (by decide : 0 + 3 ≤ _)⟩)
    dsimp only [Pt.U, Pt.locs, Pt.cells, Pt.slots] at X10 l10 y10 z10 st10 hQ10
    rw [l10, y10, z10] at X10
    obtain ⟨b_10, rfl, N10q, K10q, hq10_0, hq10_1⟩ := hQ10
    have N11 := Fr.app N0 N10q
    have ne12 : a10_0 ≠ b_10 := Nat.ne_of_lt (Nat.lt_of_lt_of_le pf_F_a10_0_bytes.lt hq10_0)
    have ne13 : ar ≠ b_10 := Nat.ne_of_lt (Nat.lt_of_lt_of_le pf_X_ar.lt hq10_0)
    have g14 : n0 ≤ b_10 := Nat.le_trans Z0 hq10_0
    have bz15 : h0.size ≤ b_10 := Nat.le_trans (Keep.refl h0 []).1 hq10_0
    have K16 : Keep h0 T10.heap [] := (Keep.refl h0 []).trans K10q all0
    obtain ⟨fs, hr, hrun, hended, hW, hsame⟩ := X10.leave (v := some (.ref b_10)) (fun h => by rw [Bd.returns] at h; cases h)
    refine ⟨_, _, pre5 _ ?_, hrun, hended, _, _, rfl, ?_, ⟨_, rfl⟩, hW, hsame.mono (by decide) (by decide)⟩
    · show Steps p.tables e below (T2.setTop (mkF m 9 #[rv a10_0] [(.int ln), (.int (3 : Int32))])) _
      refine XS.icmpYes X2.here hx rfl (pc0 := 9) (pc' := 19) rfl (hb hby d10_9) rfl (feq hc9_4).2 (by decide) (by decide) ?_
      refine XS.aloadN X2.here hx rfl (hb hby d10_19) rfl rfl ?_
      show Steps p.tables e below (T2.setTop (mkF m 20 #[rv a10_0] [(.ref a10_0)])) _
      refine st8 _ ?_
      show Steps p.tables e below (T8.setTop (mkF m 23 #[rv a10_0] [(.ref ar)])) _
      refine XS.aloadN X8.here hx rfl (hb hby d10_23) rfl rfl ?_
      show Steps p.tables e below (T8.setTop (mkF m 24 #[rv a10_0] [(.ref a10_0), (.ref ar)])) _
      refine st9 _ ?_
      show Steps p.tables e below (T9.setTop (mkF m 27 #[rv a10_0] [(.int (3 : Int32)), (.ref ar)])) _
      refine st10 _ ?_
      show Steps p.tables e below (T10.setTop (mkF m 30 #[rv a10_0] [(.ref b_10)])) _
      exact retOut X10 hx Bd.returns rfl (Or.inr (Or.inr (Or.inr (Or.inr ⟨rfl, rfl, rfl⟩)))) (hb hby d10_30) hr
    · show Q_rm_tb3 Z _ _ _ _ _ _ h0 n0 _ T10.heap _
      exact ⟨b_10, rfl, N11, (K16), hq10_1⟩
theorem ef_rm_tb4 (m : MethodId) (x0 : Addr) : entryFrame m #[(.ref x0)] 1 = mkF m 0 #[rv x0] [] := by first | (simp [entryFrame, mkF, argsToLocals, Value.category]; done) | rfl
def Q_rm_tb4 (Z : State) (a10_0 : Addr) (ar : Addr) (ln : Int32) (x0 : Int32) (x1 : Int32) (x2 : Int32) (x3 : Int32) (h0 : Heap) (n0 : Nat) (v : Option Value) (h : Heap) (L : List Loc) : Prop := ∃ (b : Addr), v = some (.ref b) ∧ Fr n0 L ∧ Keep h0 h [] ∧ (Av Z h b .byte (4 : Int32) [(.int x0), (.int x1), (.int x2), (.int x3)] (.int (0 : Int32)))
set_option maxRecDepth 65536 in
set_option maxHeartbeats 40000000 in
theorem rm_tb4 (l : Launch) (Z : State) (a0 : Array Value) (hw : ∀ d ∈ tables_1, d.before a0 Z = true) (ws : List Jvm.Cond) (a10_0 : Addr) (ar : Addr) (ln : Int32) (x0 : Int32) (x1 : Int32) (x2 : Int32) (x3 : Int32) (h0 : Heap) (n0 : Nat) (Z0 : n0 ≤ h0.size) (pf_F_a10_0_bytes : Fld Z h0 a10_0 "com/example/dido/dido/keys/KeyWriter" "bytes" "[B" (.ref ar)) (pf_F_a10_0_size : Fld Z h0 a10_0 "com/example/dido/dido/keys/KeyWriter" "size" "I" (.int (4 : Int32))) (pf_X_ar : Px Z h0 ar .byte ln [(.int x0), (.int x1), (.int x2), (.int x3)]) (hle : (4 : Int32).toInt ≤ ln.toInt) :
    MetFree l (⟨"com/example/dido/dido/keys/KeyWriter", "toByteArray", "()[B"⟩ : MethodName) (head1 (Jvm.Cond.code (⟨"com/example/dido/dido/keys/KeyWriter", "toByteArray", "()[B"⟩ : MethodName) prog_15_method_12_code 1 (some (.array .byte)) :: ws) ({ frames := 2, cells := 1, slots := 4, locals := 32 } : Room)) (fun a U => a = #[(.ref a10_0)] ∧ Z.Warmed39 U.vm ∧ U.heap = h0) (fun _ _ _ _ _ => True) (fun _ U o U' => ∃ v L, o = .returned v ∧ Q_rm_tb4 Z a10_0 ar ln x0 x1 x2 x3 h0 n0 v U'.heap L ∧ FrameEnd U o U' L ({ frames := 2, cells := 1, slots := 4, locals := 32 } : Room).cells ({ frames := 2, cells := 1, slots := 4, locals := 32 } : Room).slots) := by
  refine MetFree.of_bodySF (plainFor_of_name pn_com_example_dido_dido_keys_KeyWriter) hisR ?_
  intro p e s m args below meth c s₁ Bd hml0 hP hK
  obtain ⟨rfl, hZ, hh⟩ := hP
  have hx := Bd.exec
  have hby := Bd.bytes
  have hml : c.maxLocals = 1 := hml0
  have hown : s.vm.findClass "com/example/dido/dido/keys/KeyWriter" = some m.cls := findClass_of_methodNamed Bd.named
  have hnm := (name_of_methodNamed Bd.named Bd.method).1
  have X0 : Stand p l e ({ frames := 2, cells := 1, slots := 4, locals := 32 } : Room) s m #[(.ref a10_0)] below meth c s₁ [] 0 0 := Stand.of_body Bd
  have e0 : s₁.heap = h0 := by rw [← hh, Bd.state]; rfl
  have N0 := Fr.nil n0
  have pre0 : ∀ t, Steps p.tables e below (s₁.setTop (mkF m 0 #[rv a10_0] [])) t → Steps p.tables e below (s₁.setTop (entryFrame m #[(.ref a10_0)] 1)) t := fun t k => castTop (ef_rm_tb4 m a10_0) k
  have wo16 := hw _ (List.mem_of_getElem? (i := 16) rfl)
  have wo27 := hw _ (List.mem_of_getElem? (i := 27) rfl)
  have wo32 := hw _ (List.mem_of_getElem? (i := 32) rfl)
  have wo33 := hw _ (List.mem_of_getElem? (i := 33) rfl)
  have wo34 := hw _ (List.mem_of_getElem? (i := 34) rfl)
  have wo35 := hw _ (List.mem_of_getElem? (i := 35) rfl)
  obtain ⟨T1, X1, e1, st1⟩ := getF X0 hx hZ hown (host := "") (Or.inl wo27) Via.refl e0 pf_F_a10_0_size (g := (mkF m 1 #[rv a10_0] [(.ref a10_0)])) rfl rfl (hb hby d10_1)
  obtain ⟨T2, X2, e2, st2⟩ := getF X1 hx hZ hown (host := "") (Or.inl wo16) Via.refl e1 pf_F_a10_0_bytes (g := (mkF m 5 #[rv a10_0] [(.ref a10_0), (.int (4 : Int32))])) rfl rfl (hb hby d10_5)
  obtain ⟨re3, kk3, cl3, Ar3, qq3, Sz3, Nn3, Hs3, Gf3⟩ := id pf_X_ar
  have pre5 : ∀ t, Steps p.tables e below (T2.setTop (mkF m 9 #[rv a10_0] [(.int ln), (.int (4 : Int32))])) t → Steps p.tables e below (s₁.setTop (entryFrame m #[(.ref a10_0)] 1)) t := by
    intro t_ k_
    refine pre0 _ ?_
    show Steps p.tables e below (s₁.setTop (mkF m 0 #[rv a10_0] [])) _
    refine XS.aloadN X0.here hx rfl (hb hby d10_0) rfl rfl ?_
    show Steps p.tables e below (s₁.setTop (mkF m 1 #[rv a10_0] [(.ref a10_0)])) _
    refine st1 _ ?_
    show Steps p.tables e below (T1.setTop (mkF m 4 #[rv a10_0] [(.int (4 : Int32))])) _
    refine XS.aloadN X1.here hx rfl (hb hby d10_4) rfl rfl ?_
    show Steps p.tables e below (T1.setTop (mkF m 5 #[rv a10_0] [(.ref a10_0), (.int (4 : Int32))])) _
    refine st2 _ ?_
    show Steps p.tables e below (T2.setTop (mkF m 8 #[rv a10_0] [(.ref ar), (.int (4 : Int32))])) _
    refine X2.arraylength hx (by rw [e2]; exact Ar3.1) (State.isArrayOf_alike hZ.alike Ar3.2.1) (g := (mkF m 8 #[rv a10_0] [(.ref ar), (.int (4 : Int32))])) rfl rfl (hb hby d10_8) _ ?_
    rw [len_of Sz3 Nn3]
    exact k_
  by_cases hc9_4 : (4 : Int32) = ln
  · skip
    have pre6 : ∀ t, Steps p.tables e below (T2.setTop (mkF m 12 #[rv a10_0] [])) t → Steps p.tables e below (s₁.setTop (entryFrame m #[(.ref a10_0)] 1)) t := by
      intro t_ k_
      refine pre5 _ ?_
      show Steps p.tables e below (T2.setTop (mkF m 9 #[rv a10_0] [(.int ln), (.int (4 : Int32))])) _
      refine XS.icmpNo X2.here hx rfl (hb hby d10_9) rfl (teq hc9_4).2 ?_
      exact k_
    obtain rfl : ln = (4 : Int32) := hc9_4.symm
    obtain ⟨T7, X7, e7, st7⟩ := getF X2 hx hZ hown (host := "") (Or.inl wo16) Via.refl e2 pf_F_a10_0_bytes (g := (mkF m 13 #[rv a10_0] [(.ref a10_0)])) rfl rfl (hb hby d10_13)
    obtain ⟨fs, hr, hrun, hended, hW, hsame⟩ := X7.leave (v := some (.ref ar)) (fun h => by rw [Bd.returns] at h; cases h)
    refine ⟨_, _, pre6 _ ?_, hrun, hended, _, _, rfl, ?_, ⟨_, rfl⟩, hW, hsame.mono (by decide) (by decide)⟩
    · show Steps p.tables e below (T2.setTop (mkF m 12 #[rv a10_0] [])) _
      refine XS.aloadN X2.here hx rfl (hb hby d10_12) rfl rfl ?_
      show Steps p.tables e below (T2.setTop (mkF m 13 #[rv a10_0] [(.ref a10_0)])) _
      refine st7 _ ?_
      show Steps p.tables e below (T7.setTop (mkF m 16 #[rv a10_0] [(.ref ar)])) _
      refine XS.goto X7.here hx rfl (pc0 := 16) (pc' := 30) rfl (hb hby d10_16) (by decide) (by decide) ?_
      show Steps p.tables e below (T7.setTop (mkF m 30 #[rv a10_0] [(.ref ar)])) _
      exact retOut X7 hx Bd.returns rfl (Or.inr (Or.inr (Or.inr (Or.inr ⟨rfl, rfl, rfl⟩)))) (hb hby d10_30) hr
    · show Q_rm_tb4 Z _ _ _ _ _ _ _ h0 n0 _ T7.heap _
      rw [e7]
      exact ⟨ar, rfl, N0, (Keep.refl h0 []), (Px.av pf_X_ar rfl)⟩
  · skip
    obtain ⟨T8, X8, e8, st8⟩ := getF X2 hx hZ hown (host := "") (Or.inl wo16) Via.refl e2 pf_F_a10_0_bytes (g := (mkF m 20 #[rv a10_0] [(.ref a10_0)])) rfl rfl (hb hby d10_20)
    obtain ⟨T9, X9, e9, st9⟩ := getF X8 hx hZ hown (host := "") (Or.inl wo27) Via.refl e8 pf_F_a10_0_size (g := (mkF m 24 #[rv a10_0] [(.ref a10_0), (.ref ar)])) rfl rfl (hb hby d10_24)
    obtain ⟨_, _, ⟨T10, L10, k10, n10⟩, -, X10, ⟨Lc10, hQ10, l10, y10, z10⟩, st10⟩ := Jvm.LawKit.callS X9 hx (y := MN7) hown (mvT hZ wo32) (mvT hZ wo33) (mvT hZ wo34) (mvT hZ wo35) (by decide) (backOf (W := 0) (rm_cs4 l Z a0 hw [] ar ln x0 x1 x2 x3 h0 n0 Z0 pf_X_ar (hle : (4 : Int32).toInt ≤ ln.toInt) (hc9_4 : ¬ ((4 : Int32) = ln))) hZ wo35 wo34 (by decide) (by decide)) (g := (mkF m 27 #[rv a10_0] [(.int (4 : Int32)), (.ref ar)])) rfl (by rw [hml]; rfl) (argsL := [(.ref ar), (.int (4 : Int32))]) (rest := []) (lenOf pd_7 rfl) rfl (by show 2 * 0 + _ ≤ _; exact Nat.le_of_eq rfl) (hb hby d10_27) (fun _ _ => ⟨rfl, e9, (by decide : 0 + 1 ≤ _), (by decide : 0 + 4 ≤ _)⟩)
    dsimp only [Pt.U, Pt.locs, Pt.cells, Pt.slots] at X10 l10 y10 z10 st10 hQ10
    rw [l10, y10, z10] at X10
    obtain ⟨b_10, rfl, N10q, K10q, hq10_0, hq10_1⟩ := hQ10
    have N11 := Fr.app N0 N10q
    have ne12 : a10_0 ≠ b_10 := Nat.ne_of_lt (Nat.lt_of_lt_of_le pf_F_a10_0_bytes.lt hq10_0)
    have ne13 : ar ≠ b_10 := Nat.ne_of_lt (Nat.lt_of_lt_of_le pf_X_ar.lt hq10_0)
    have g14 : n0 ≤ b_10 := Nat.le_trans Z0 hq10_0
    have bz15 : h0.size ≤ b_10 := Nat.le_trans (Keep.refl h0 []).1 hq10_0
    have K16 : Keep h0 T10.heap [] := (Keep.refl h0 []).trans K10q all0
    obtain ⟨fs, hr, hrun, hended, hW, hsame⟩ := X10.leave (v := some (.ref b_10)) (fun h => by rw [Bd.returns] at h; cases h)
    refine ⟨_, _, pre5 _ ?_, hrun, hended, _, _, rfl, ?_, ⟨_, rfl⟩, hW, hsame.mono (by decide) (by decide)⟩
    · show Steps p.tables e below (T2.setTop (mkF m 9 #[rv a10_0] [(.int ln), (.int (4 : Int32))])) _
      refine XS.icmpYes X2.here hx rfl (pc0 := 9) (pc' := 19) rfl (hb hby d10_9) rfl (feq hc9_4).2 (by decide) (by decide) ?_
      refine XS.aloadN X2.here hx rfl (hb hby d10_19) rfl rfl ?_
      show Steps p.tables e below (T2.setTop (mkF m 20 #[rv a10_0] [(.ref a10_0)])) _
      refine st8 _ ?_
      show Steps p.tables e below (T8.setTop (mkF m 23 #[rv a10_0] [(.ref ar)])) _
      refine XS.aloadN X8.here hx rfl (hb hby d10_23) rfl rfl ?_
      show Steps p.tables e below (T8.setTop (mkF m 24 #[rv a10_0] [(.ref a10_0), (.ref ar)])) _
      refine st9 _ ?_
      show Steps p.tables e below (T9.setTop (mkF m 27 #[rv a10_0] [(.int (4 : Int32)), (.ref ar)])) _
      refine st10 _ ?_
      show Steps p.tables e below (T10.setTop (mkF m 30 #[rv a10_0] [(.ref b_10)])) _
      exact retOut X10 hx Bd.returns rfl (Or.inr (Or.inr (Or.inr (Or.inr ⟨rfl, rfl, rfl⟩)))) (hb hby d10_30) hr
    · show Q_rm_tb4 Z _ _ _ _ _ _ _ h0 n0 _ T10.heap _
      exact ⟨b_10, rfl, N11, (K16), hq10_1⟩
theorem d11_0 : decode method_2_code 0 = .ok (.iload_n 2, 1) := by decide +kernel
theorem d11_1 : decode method_2_code 1 = .ok (.sipush 255, 3) := by decide +kernel
theorem d11_4 : decode method_2_code 4 = .ok (.iand, 1) := by decide +kernel
theorem d11_5 : decode method_2_code 5 = .ok (.istore 4, 2) := by decide +kernel
theorem d11_7 : decode method_2_code 7 = .ok (.iload_n 1, 1) := by decide +kernel
theorem d11_8 : decode method_2_code 8 = .ok (.iload_n 3, 1) := by decide +kernel
theorem d11_9 : decode method_2_code 9 = .ok (.if_icmp .ge 8, 3) := by decide +kernel
theorem d11_12 : decode method_2_code 12 = .ok (.iload 4, 2) := by decide +kernel
theorem d11_14 : decode method_2_code 14 = .ok (.goto 9, 3) := by decide +kernel
theorem d11_23 : decode method_2_code 23 = .ok (.istore 5, 2) := by decide +kernel
theorem d11_25 : decode method_2_code 25 = .ok (.aload_n 0, 1) := by decide +kernel
theorem d11_26 : decode method_2_code 26 = .ok (.iload_n 1, 1) := by decide +kernel
theorem d11_27 : decode method_2_code 27 = .ok (.baload, 1) := by decide +kernel
theorem d11_28 : decode method_2_code 28 = .ok (.sipush 255, 3) := by decide +kernel
theorem d11_31 : decode method_2_code 31 = .ok (.iand, 1) := by decide +kernel
theorem d11_32 : decode method_2_code 32 = .ok (.iload 5, 2) := by decide +kernel
theorem d11_34 : decode method_2_code 34 = .ok (.if_icmp .ne 7, 3) := by decide +kernel
theorem d11_37 : decode method_2_code 37 = .ok (.iconst 1, 1) := by decide +kernel
theorem d11_38 : decode method_2_code 38 = .ok (.goto 4, 3) := by decide +kernel
theorem d11_42 : decode method_2_code 42 = .ok (.ireturn, 1) := by decide +kernel
theorem d11_41 : decode method_2_code 41 = .ok (.iconst 0, 1) := by decide +kernel
theorem d11_17 : decode method_2_code 17 = .ok (.sipush 255, 3) := by decide +kernel
theorem d11_20 : decode method_2_code 20 = .ok (.iload 4, 2) := by decide +kernel
theorem d11_22 : decode method_2_code 22 = .ok (.isub, 1) := by decide +kernel
theorem pn_com_example_dido_dido_keys_KeyWriterInvertPinLaw : plainName "com/example/dido/dido/keys/KeyWriterInvertPinLaw" = true := by first | (simp [plainName, overriddenIn]; done) | decide +kernel
theorem ef_rm_ok1_0 (m : MethodId) (x0 : Addr) (x1 : Int32) (x2 : Int32) (x3 : Int32) : entryFrame m #[(.ref x0), (.int x1), (.int x2), (.int x3)] 6 = mkF m 0 #[rv x0, iv x1, iv x2, iv x3, .unset, .unset] [] := by first | (simp [entryFrame, mkF, argsToLocals, Value.category]; done) | rfl
def Q_rm_ok1_0 (Z : State) (ar : Addr) (vv : Int32) (fr : Int32) (x0 : Int32) (h0 : Heap) (n0 : Nat) (v : Option Value) (h : Heap) (L : List Loc) : Prop := v = some (.int (if (x0 &&& (255 : Int32)) = (if (0 : Int32) < fr then (vv &&& (255 : Int32)) else ((255 : Int32) - (vv &&& (255 : Int32)))) then (1 : Int32) else (0 : Int32))) ∧ Fr n0 L ∧ h = h0
set_option maxRecDepth 65536 in
set_option maxHeartbeats 40000000 in
theorem rm_ok1_0 (l : Launch) (Z : State) (a0 : Array Value) (hw : ∀ d ∈ tables_1, d.before a0 Z = true) (ws : List Jvm.Cond) (ar : Addr) (vv : Int32) (fr : Int32) (x0 : Int32) (h0 : Heap) (n0 : Nat) (Z0 : n0 ≤ h0.size) (pf_A_ar : Av Z h0 ar .byte (1 : Int32) [(.int x0)] (.int (0 : Int32))) :
    MetFree l (⟨"com/example/dido/dido/keys/KeyWriterInvertPinLaw", "ok", "([BIII)Z"⟩ : MethodName) (head1 (Jvm.Cond.code (⟨"com/example/dido/dido/keys/KeyWriterInvertPinLaw", "ok", "([BIII)Z"⟩ : MethodName) method_2_code 6 (some .boolean) :: ws) ({ frames := 0, cells := 0, slots := 0, locals := 0 } : Room)) (fun a U => a = #[(.ref ar), (.int (0 : Int32)), (.int vv), (.int fr)] ∧ Z.Warmed39 U.vm ∧ U.heap = h0) (fun _ _ _ _ _ => True) (fun _ U o U' => ∃ v L, o = .returned v ∧ Q_rm_ok1_0 Z ar vv fr x0 h0 n0 v U'.heap L ∧ FrameEnd U o U' L ({ frames := 0, cells := 0, slots := 0, locals := 0 } : Room).cells ({ frames := 0, cells := 0, slots := 0, locals := 0 } : Room).slots) := by
  refine MetFree.of_bodySF (plainFor_of_name pn_com_example_dido_dido_keys_KeyWriterInvertPinLaw) hisR ?_
  intro p e s m args below meth c s₁ Bd hml0 hP hK
  obtain ⟨rfl, hZ, hh⟩ := hP
  have hx := Bd.exec
  have hby := Bd.bytes
  have hml : c.maxLocals = 6 := hml0
  have hown : s.vm.findClass "com/example/dido/dido/keys/KeyWriterInvertPinLaw" = some m.cls := findClass_of_methodNamed Bd.named
  have hnm := (name_of_methodNamed Bd.named Bd.method).1
  have X0 : Stand p l e ({ frames := 0, cells := 0, slots := 0, locals := 0 } : Room) s m #[(.ref ar), (.int (0 : Int32)), (.int vv), (.int fr)] below meth c s₁ [] 0 0 := Stand.of_body Bd
  have e0 : s₁.heap = h0 := by rw [← hh, Bd.state]; rfl
  have N0 := Fr.nil n0
  have pre0 : ∀ t, Steps p.tables e below (s₁.setTop (mkF m 0 #[rv ar, iv (0 : Int32), iv vv, iv fr, .unset, .unset] [])) t → Steps p.tables e below (s₁.setTop (entryFrame m #[(.ref ar), (.int (0 : Int32)), (.int vv), (.int fr)] 6)) t := fun t k => castTop (ef_rm_ok1_0 m ar (0 : Int32) vv fr) k
  have pre2 : ∀ t, Steps p.tables e below (s₁.setTop (mkF m 9 #[rv ar, iv (0 : Int32), iv vv, iv fr, iv (vv &&& (255 : Int32)), .unset] [(.int fr), (.int (0 : Int32))])) t → Steps p.tables e below (s₁.setTop (entryFrame m #[(.ref ar), (.int (0 : Int32)), (.int vv), (.int fr)] 6)) t := by
    intro t_ k_
    refine pre0 _ ?_
    show Steps p.tables e below (s₁.setTop (mkF m 0 #[rv ar, iv (0 : Int32), iv vv, iv fr, .unset, .unset] [])) _
    refine XS.iloadN X0.here hx rfl (hb hby d11_0) rfl ?_
    refine XS.sipush X0.here hx rfl (hb hby d11_1) ?_
    refine XS.iand X0.here hx rfl (hb hby d11_4) rfl ?_
    refine XS.istore X0.here hx rfl (hb hby d11_5) rfl (l' := #[rv ar, iv (0 : Int32), iv vv, iv fr, iv (vv &&& (255 : Int32)), .unset]) rfl ?_
    show Steps p.tables e below (s₁.setTop (mkF m 7 #[rv ar, iv (0 : Int32), iv vv, iv fr, iv (vv &&& (255 : Int32)), .unset] [])) _
    refine XS.iloadN X0.here hx rfl (hb hby d11_7) rfl ?_
    refine XS.iloadN X0.here hx rfl (hb hby d11_8) rfl ?_
    exact k_
  by_cases hc9_1 : (0 : Int32) < fr
  · skip
    obtain ⟨kk3, cl3, Ar3, qq3, Sz3, Nn3, Hs3, Gf3⟩ := id pf_A_ar
    have hin4 : ¬ ((0 : Int32) < 0 ∨ cl3.slots.size ≤ ((0 : Int32)).toNatClampNeg) := inb_of Sz3 ⟨by decide, by decide⟩
    have hat5 : cl3.slots[((0 : Int32)).toNatClampNeg]? = some (.int x0) := Has.at Hs3 hin4 rfl
    have pre7 : ∀ t, Steps p.tables e below (s₁.setTop (mkF m 34 #[rv ar, iv (0 : Int32), iv vv, iv fr, iv (vv &&& (255 : Int32)), iv (vv &&& (255 : Int32))] [(.int (vv &&& (255 : Int32))), (.int (x0 &&& (255 : Int32)))])) t → Steps p.tables e below (s₁.setTop (entryFrame m #[(.ref ar), (.int (0 : Int32)), (.int vv), (.int fr)] 6)) t := by
      intro t_ k_
      refine pre2 _ ?_
      show Steps p.tables e below (s₁.setTop (mkF m 9 #[rv ar, iv (0 : Int32), iv vv, iv fr, iv (vv &&& (255 : Int32)), .unset] [(.int fr), (.int (0 : Int32))])) _
      refine XS.icmpNo X0.here hx rfl (hb hby d11_9) rfl (tlt hc9_1).2.1 ?_
      refine XS.iload X0.here hx rfl (hb hby d11_12) rfl ?_
      show Steps p.tables e below (s₁.setTop (mkF m 14 #[rv ar, iv (0 : Int32), iv vv, iv fr, iv (vv &&& (255 : Int32)), .unset] [(.int (vv &&& (255 : Int32)))])) _
      refine XS.goto X0.here hx rfl (pc0 := 14) (pc' := 23) rfl (hb hby d11_14) (by decide) (by decide) ?_
      refine XS.istore X0.here hx rfl (hb hby d11_23) rfl (l' := #[rv ar, iv (0 : Int32), iv vv, iv fr, iv (vv &&& (255 : Int32)), iv (vv &&& (255 : Int32))]) rfl ?_
      refine XS.aloadN X0.here hx rfl (hb hby d11_25) rfl rfl ?_
      refine XS.iloadN X0.here hx rfl (hb hby d11_26) rfl ?_
      show Steps p.tables e below (s₁.setTop (mkF m 27 #[rv ar, iv (0 : Int32), iv vv, iv fr, iv (vv &&& (255 : Int32)), iv (vv &&& (255 : Int32))] [(.int (0 : Int32)), (.ref ar)])) _
      refine X0.baloadBytes hx (j := (0 : Int32)) (v := (.int x0)) (by rw [e0]; exact Ar3.1) (State.isArrayOf_alike hZ.alike Ar3.2.1) Ar3.2.2 hin4 hat5 (g := (mkF m 27 #[rv ar, iv (0 : Int32), iv vv, iv fr, iv (vv &&& (255 : Int32)), iv (vv &&& (255 : Int32))] [(.int (0 : Int32)), (.ref ar)])) rfl rfl (hb hby d11_27) _ ?_
      show Steps p.tables e below (s₁.setTop (mkF m 28 #[rv ar, iv (0 : Int32), iv vv, iv fr, iv (vv &&& (255 : Int32)), iv (vv &&& (255 : Int32))] [(.int x0)])) _
      refine XS.sipush X0.here hx rfl (hb hby d11_28) ?_
      refine XS.iand X0.here hx rfl (hb hby d11_31) rfl ?_
      refine XS.iload X0.here hx rfl (hb hby d11_32) rfl ?_
      exact k_
    by_cases hc34_6 : (x0 &&& (255 : Int32)) = (vv &&& (255 : Int32))
    · skip
      obtain ⟨fs, hr, hrun, hended, hW, hsame⟩ := X0.leave (v := some (.int (1 : Int32))) (fun h => by rw [Bd.returns] at h; cases h)
      refine ⟨_, _, pre7 _ ?_, hrun, hended, _, _, rfl, ?_, ⟨_, rfl⟩, hW, hsame.mono (by decide) (by decide)⟩
      · show Steps p.tables e below (s₁.setTop (mkF m 34 #[rv ar, iv (0 : Int32), iv vv, iv fr, iv (vv &&& (255 : Int32)), iv (vv &&& (255 : Int32))] [(.int (vv &&& (255 : Int32))), (.int (x0 &&& (255 : Int32)))])) _
        refine XS.icmpNo X0.here hx rfl (hb hby d11_34) rfl (teq hc34_6).2 ?_
        show Steps p.tables e below (s₁.setTop (mkF m 37 #[rv ar, iv (0 : Int32), iv vv, iv fr, iv (vv &&& (255 : Int32)), iv (vv &&& (255 : Int32))] [])) _
        refine XS.iconst X0.here hx rfl (hb hby d11_37) ?_
        refine XS.goto X0.here hx rfl (pc0 := 38) (pc' := 42) rfl (hb hby d11_38) (by decide) (by decide) ?_
        show Steps p.tables e below (s₁.setTop (mkF m 42 #[rv ar, iv (0 : Int32), iv vv, iv fr, iv (vv &&& (255 : Int32)), iv (vv &&& (255 : Int32))] [(.int (1 : Int32))])) _
        exact retN X0 hx (t := .boolean) Bd.returns (by simp) (hb hby d11_42) hr
      · show Q_rm_ok1_0 Z _ _ _ _ h0 n0 _ s₁.heap _
        rw [e0]
        exact ⟨(by first | rfl | (simp [*]; done) | (simp_all; done)), N0, rfl⟩
    · skip
      obtain ⟨fs, hr, hrun, hended, hW, hsame⟩ := X0.leave (v := some (.int (0 : Int32))) (fun h => by rw [Bd.returns] at h; cases h)
      refine ⟨_, _, pre7 _ ?_, hrun, hended, _, _, rfl, ?_, ⟨_, rfl⟩, hW, hsame.mono (by decide) (by decide)⟩
      · show Steps p.tables e below (s₁.setTop (mkF m 34 #[rv ar, iv (0 : Int32), iv vv, iv fr, iv (vv &&& (255 : Int32)), iv (vv &&& (255 : Int32))] [(.int (vv &&& (255 : Int32))), (.int (x0 &&& (255 : Int32)))])) _
        refine XS.icmpYes X0.here hx rfl (pc0 := 34) (pc' := 41) rfl (hb hby d11_34) rfl (feq hc34_6).2 (by decide) (by decide) ?_
        refine XS.iconst X0.here hx rfl (hb hby d11_41) ?_
        show Steps p.tables e below (s₁.setTop (mkF m 42 #[rv ar, iv (0 : Int32), iv vv, iv fr, iv (vv &&& (255 : Int32)), iv (vv &&& (255 : Int32))] [(.int (0 : Int32))])) _
        exact retN X0 hx (t := .boolean) Bd.returns (by simp) (hb hby d11_42) hr
      · show Q_rm_ok1_0 Z _ _ _ _ h0 n0 _ s₁.heap _
        rw [e0]
        exact ⟨(by first | rfl | (simp [*]; done) | (simp_all; done)), N0, rfl⟩
  · skip
    obtain ⟨kk8, cl8, Ar8, qq8, Sz8, Nn8, Hs8, Gf8⟩ := id pf_A_ar
    have hin9 : ¬ ((0 : Int32) < 0 ∨ cl8.slots.size ≤ ((0 : Int32)).toNatClampNeg) := inb_of Sz8 ⟨by decide, by decide⟩
    have hat10 : cl8.slots[((0 : Int32)).toNatClampNeg]? = some (.int x0) := Has.at Hs8 hin9 rfl
    have pre12 : ∀ t, Steps p.tables e below (s₁.setTop (mkF m 34 #[rv ar, iv (0 : Int32), iv vv, iv fr, iv (vv &&& (255 : Int32)), iv ((255 : Int32) - (vv &&& (255 : Int32)))] [(.int ((255 : Int32) - (vv &&& (255 : Int32)))), (.int (x0 &&& (255 : Int32)))])) t → Steps p.tables e below (s₁.setTop (entryFrame m #[(.ref ar), (.int (0 : Int32)), (.int vv), (.int fr)] 6)) t := by
      intro t_ k_
      refine pre2 _ ?_
      show Steps p.tables e below (s₁.setTop (mkF m 9 #[rv ar, iv (0 : Int32), iv vv, iv fr, iv (vv &&& (255 : Int32)), .unset] [(.int fr), (.int (0 : Int32))])) _
      refine XS.icmpYes X0.here hx rfl (pc0 := 9) (pc' := 17) rfl (hb hby d11_9) rfl (flt hc9_1).2.1 (by decide) (by decide) ?_
      refine XS.sipush X0.here hx rfl (hb hby d11_17) ?_
      refine XS.iload X0.here hx rfl (hb hby d11_20) rfl ?_
      show Steps p.tables e below (s₁.setTop (mkF m 22 #[rv ar, iv (0 : Int32), iv vv, iv fr, iv (vv &&& (255 : Int32)), .unset] [(.int (vv &&& (255 : Int32))), (.int (255 : Int32))])) _
      refine XS.isub X0.here hx rfl (hb hby d11_22) rfl ?_
      refine XS.istore X0.here hx rfl (hb hby d11_23) rfl (l' := #[rv ar, iv (0 : Int32), iv vv, iv fr, iv (vv &&& (255 : Int32)), iv ((255 : Int32) - (vv &&& (255 : Int32)))]) rfl ?_
      refine XS.aloadN X0.here hx rfl (hb hby d11_25) rfl rfl ?_
      refine XS.iloadN X0.here hx rfl (hb hby d11_26) rfl ?_
      show Steps p.tables e below (s₁.setTop (mkF m 27 #[rv ar, iv (0 : Int32), iv vv, iv fr, iv (vv &&& (255 : Int32)), iv ((255 : Int32) - (vv &&& (255 : Int32)))] [(.int (0 : Int32)), (.ref ar)])) _
      refine X0.baloadBytes hx (j := (0 : Int32)) (v := (.int x0)) (by rw [e0]; exact Ar8.1) (State.isArrayOf_alike hZ.alike Ar8.2.1) Ar8.2.2 hin9 hat10 (g := (mkF m 27 #[rv ar, iv (0 : Int32), iv vv, iv fr, iv (vv &&& (255 : Int32)), iv ((255 : Int32) - (vv &&& (255 : Int32)))] [(.int (0 : Int32)), (.ref ar)])) rfl rfl (hb hby d11_27) _ ?_
      show Steps p.tables e below (s₁.setTop (mkF m 28 #[rv ar, iv (0 : Int32), iv vv, iv fr, iv (vv &&& (255 : Int32)), iv ((255 : Int32) - (vv &&& (255 : Int32)))] [(.int x0)])) _
      refine XS.sipush X0.here hx rfl (hb hby d11_28) ?_
      refine XS.iand X0.here hx rfl (hb hby d11_31) rfl ?_
      refine XS.iload X0.here hx rfl (hb hby d11_32) rfl ?_
      exact k_
    by_cases hc34_11 : (x0 &&& (255 : Int32)) = ((255 : Int32) - (vv &&& (255 : Int32)))
    · skip
      obtain ⟨fs, hr, hrun, hended, hW, hsame⟩ := X0.leave (v := some (.int (1 : Int32))) (fun h => by rw [Bd.returns] at h; cases h)
      refine ⟨_, _, pre12 _ ?_, hrun, hended, _, _, rfl, ?_, ⟨_, rfl⟩, hW, hsame.mono (by decide) (by decide)⟩
      · show Steps p.tables e below (s₁.setTop (mkF m 34 #[rv ar, iv (0 : Int32), iv vv, iv fr, iv (vv &&& (255 : Int32)), iv ((255 : Int32) - (vv &&& (255 : Int32)))] [(.int ((255 : Int32) - (vv &&& (255 : Int32)))), (.int (x0 &&& (255 : Int32)))])) _
        refine XS.icmpNo X0.here hx rfl (hb hby d11_34) rfl (teq hc34_11).2 ?_
        show Steps p.tables e below (s₁.setTop (mkF m 37 #[rv ar, iv (0 : Int32), iv vv, iv fr, iv (vv &&& (255 : Int32)), iv ((255 : Int32) - (vv &&& (255 : Int32)))] [])) _
        refine XS.iconst X0.here hx rfl (hb hby d11_37) ?_
        refine XS.goto X0.here hx rfl (pc0 := 38) (pc' := 42) rfl (hb hby d11_38) (by decide) (by decide) ?_
        show Steps p.tables e below (s₁.setTop (mkF m 42 #[rv ar, iv (0 : Int32), iv vv, iv fr, iv (vv &&& (255 : Int32)), iv ((255 : Int32) - (vv &&& (255 : Int32)))] [(.int (1 : Int32))])) _
        exact retN X0 hx (t := .boolean) Bd.returns (by simp) (hb hby d11_42) hr
      · show Q_rm_ok1_0 Z _ _ _ _ h0 n0 _ s₁.heap _
        rw [e0]
        exact ⟨(by first | rfl | (simp [*]; done) | (simp_all; done)), N0, rfl⟩
    · skip
      obtain ⟨fs, hr, hrun, hended, hW, hsame⟩ := X0.leave (v := some (.int (0 : Int32))) (fun h => by rw [Bd.returns] at h; cases h)
      refine ⟨_, _, pre12 _ ?_, hrun, hended, _, _, rfl, ?_, ⟨_, rfl⟩, hW, hsame.mono (by decide) (by decide)⟩
      · show Steps p.tables e below (s₁.setTop (mkF m 34 #[rv ar, iv (0 : Int32), iv vv, iv fr, iv (vv &&& (255 : Int32)), iv ((255 : Int32) - (vv &&& (255 : Int32)))] [(.int ((255 : Int32) - (vv &&& (255 : Int32)))), (.int (x0 &&& (255 : Int32)))])) _
        refine XS.icmpYes X0.here hx rfl (pc0 := 34) (pc' := 41) rfl (hb hby d11_34) rfl (feq hc34_11).2 (by decide) (by decide) ?_
        refine XS.iconst X0.here hx rfl (hb hby d11_41) ?_
        show Steps p.tables e below (s₁.setTop (mkF m 42 #[rv ar, iv (0 : Int32), iv vv, iv fr, iv (vv &&& (255 : Int32)), iv ((255 : Int32) - (vv &&& (255 : Int32)))] [(.int (0 : Int32))])) _
        exact retN X0 hx (t := .boolean) Bd.returns (by simp) (hb hby d11_42) hr
      · show Q_rm_ok1_0 Z _ _ _ _ h0 n0 _ s₁.heap _
        rw [e0]
        exact ⟨(by first | rfl | (simp [*]; done) | (simp_all; done)), N0, rfl⟩
theorem ef_rm_ok2_0 (m : MethodId) (x0 : Addr) (x1 : Int32) (x2 : Int32) (x3 : Int32) : entryFrame m #[(.ref x0), (.int x1), (.int x2), (.int x3)] 6 = mkF m 0 #[rv x0, iv x1, iv x2, iv x3, .unset, .unset] [] := by first | (simp [entryFrame, mkF, argsToLocals, Value.category]; done) | rfl
def Q_rm_ok2_0 (Z : State) (ar : Addr) (vv : Int32) (fr : Int32) (x0 : Int32) (x1 : Int32) (h0 : Heap) (n0 : Nat) (v : Option Value) (h : Heap) (L : List Loc) : Prop := v = some (.int (if (x0 &&& (255 : Int32)) = (if (0 : Int32) < fr then (vv &&& (255 : Int32)) else ((255 : Int32) - (vv &&& (255 : Int32)))) then (1 : Int32) else (0 : Int32))) ∧ Fr n0 L ∧ h = h0
set_option maxRecDepth 65536 in
set_option maxHeartbeats 40000000 in
theorem rm_ok2_0 (l : Launch) (Z : State) (a0 : Array Value) (hw : ∀ d ∈ tables_1, d.before a0 Z = true) (ws : List Jvm.Cond) (ar : Addr) (vv : Int32) (fr : Int32) (x0 : Int32) (x1 : Int32) (h0 : Heap) (n0 : Nat) (Z0 : n0 ≤ h0.size) (pf_A_ar : Av Z h0 ar .byte (2 : Int32) [(.int x0), (.int x1)] (.int (0 : Int32))) :
    MetFree l (⟨"com/example/dido/dido/keys/KeyWriterInvertPinLaw", "ok", "([BIII)Z"⟩ : MethodName) (head1 (Jvm.Cond.code (⟨"com/example/dido/dido/keys/KeyWriterInvertPinLaw", "ok", "([BIII)Z"⟩ : MethodName) method_2_code 6 (some .boolean) :: ws) ({ frames := 0, cells := 0, slots := 0, locals := 0 } : Room)) (fun a U => a = #[(.ref ar), (.int (0 : Int32)), (.int vv), (.int fr)] ∧ Z.Warmed39 U.vm ∧ U.heap = h0) (fun _ _ _ _ _ => True) (fun _ U o U' => ∃ v L, o = .returned v ∧ Q_rm_ok2_0 Z ar vv fr x0 x1 h0 n0 v U'.heap L ∧ FrameEnd U o U' L ({ frames := 0, cells := 0, slots := 0, locals := 0 } : Room).cells ({ frames := 0, cells := 0, slots := 0, locals := 0 } : Room).slots) := by
  refine MetFree.of_bodySF (plainFor_of_name pn_com_example_dido_dido_keys_KeyWriterInvertPinLaw) hisR ?_
  intro p e s m args below meth c s₁ Bd hml0 hP hK
  obtain ⟨rfl, hZ, hh⟩ := hP
  have hx := Bd.exec
  have hby := Bd.bytes
  have hml : c.maxLocals = 6 := hml0
  have hown : s.vm.findClass "com/example/dido/dido/keys/KeyWriterInvertPinLaw" = some m.cls := findClass_of_methodNamed Bd.named
  have hnm := (name_of_methodNamed Bd.named Bd.method).1
  have X0 : Stand p l e ({ frames := 0, cells := 0, slots := 0, locals := 0 } : Room) s m #[(.ref ar), (.int (0 : Int32)), (.int vv), (.int fr)] below meth c s₁ [] 0 0 := Stand.of_body Bd
  have e0 : s₁.heap = h0 := by rw [← hh, Bd.state]; rfl
  have N0 := Fr.nil n0
  have pre0 : ∀ t, Steps p.tables e below (s₁.setTop (mkF m 0 #[rv ar, iv (0 : Int32), iv vv, iv fr, .unset, .unset] [])) t → Steps p.tables e below (s₁.setTop (entryFrame m #[(.ref ar), (.int (0 : Int32)), (.int vv), (.int fr)] 6)) t := fun t k => castTop (ef_rm_ok2_0 m ar (0 : Int32) vv fr) k
  have pre2 : ∀ t, Steps p.tables e below (s₁.setTop (mkF m 9 #[rv ar, iv (0 : Int32), iv vv, iv fr, iv (vv &&& (255 : Int32)), .unset] [(.int fr), (.int (0 : Int32))])) t → Steps p.tables e below (s₁.setTop (entryFrame m #[(.ref ar), (.int (0 : Int32)), (.int vv), (.int fr)] 6)) t := by
    intro t_ k_
    refine pre0 _ ?_
    show Steps p.tables e below (s₁.setTop (mkF m 0 #[rv ar, iv (0 : Int32), iv vv, iv fr, .unset, .unset] [])) _
    refine XS.iloadN X0.here hx rfl (hb hby d11_0) rfl ?_
    refine XS.sipush X0.here hx rfl (hb hby d11_1) ?_
    refine XS.iand X0.here hx rfl (hb hby d11_4) rfl ?_
    refine XS.istore X0.here hx rfl (hb hby d11_5) rfl (l' := #[rv ar, iv (0 : Int32), iv vv, iv fr, iv (vv &&& (255 : Int32)), .unset]) rfl ?_
    show Steps p.tables e below (s₁.setTop (mkF m 7 #[rv ar, iv (0 : Int32), iv vv, iv fr, iv (vv &&& (255 : Int32)), .unset] [])) _
    refine XS.iloadN X0.here hx rfl (hb hby d11_7) rfl ?_
    refine XS.iloadN X0.here hx rfl (hb hby d11_8) rfl ?_
    exact k_
  by_cases hc9_1 : (0 : Int32) < fr
  · skip
    obtain ⟨kk3, cl3, Ar3, qq3, Sz3, Nn3, Hs3, Gf3⟩ := id pf_A_ar
    have hin4 : ¬ ((0 : Int32) < 0 ∨ cl3.slots.size ≤ ((0 : Int32)).toNatClampNeg) := inb_of Sz3 ⟨by decide, by decide⟩
    have hat5 : cl3.slots[((0 : Int32)).toNatClampNeg]? = some (.int x0) := Has.at Hs3 hin4 rfl
    have pre7 : ∀ t, Steps p.tables e below (s₁.setTop (mkF m 34 #[rv ar, iv (0 : Int32), iv vv, iv fr, iv (vv &&& (255 : Int32)), iv (vv &&& (255 : Int32))] [(.int (vv &&& (255 : Int32))), (.int (x0 &&& (255 : Int32)))])) t → Steps p.tables e below (s₁.setTop (entryFrame m #[(.ref ar), (.int (0 : Int32)), (.int vv), (.int fr)] 6)) t := by
      intro t_ k_
      refine pre2 _ ?_
      show Steps p.tables e below (s₁.setTop (mkF m 9 #[rv ar, iv (0 : Int32), iv vv, iv fr, iv (vv &&& (255 : Int32)), .unset] [(.int fr), (.int (0 : Int32))])) _
      refine XS.icmpNo X0.here hx rfl (hb hby d11_9) rfl (tlt hc9_1).2.1 ?_
      refine XS.iload X0.here hx rfl (hb hby d11_12) rfl ?_
      show Steps p.tables e below (s₁.setTop (mkF m 14 #[rv ar, iv (0 : Int32), iv vv, iv fr, iv (vv &&& (255 : Int32)), .unset] [(.int (vv &&& (255 : Int32)))])) _
      refine XS.goto X0.here hx rfl (pc0 := 14) (pc' := 23) rfl (hb hby d11_14) (by decide) (by decide) ?_
      refine XS.istore X0.here hx rfl (hb hby d11_23) rfl (l' := #[rv ar, iv (0 : Int32), iv vv, iv fr, iv (vv &&& (255 : Int32)), iv (vv &&& (255 : Int32))]) rfl ?_
      refine XS.aloadN X0.here hx rfl (hb hby d11_25) rfl rfl ?_
      refine XS.iloadN X0.here hx rfl (hb hby d11_26) rfl ?_
      show Steps p.tables e below (s₁.setTop (mkF m 27 #[rv ar, iv (0 : Int32), iv vv, iv fr, iv (vv &&& (255 : Int32)), iv (vv &&& (255 : Int32))] [(.int (0 : Int32)), (.ref ar)])) _
      refine X0.baloadBytes hx (j := (0 : Int32)) (v := (.int x0)) (by rw [e0]; exact Ar3.1) (State.isArrayOf_alike hZ.alike Ar3.2.1) Ar3.2.2 hin4 hat5 (g := (mkF m 27 #[rv ar, iv (0 : Int32), iv vv, iv fr, iv (vv &&& (255 : Int32)), iv (vv &&& (255 : Int32))] [(.int (0 : Int32)), (.ref ar)])) rfl rfl (hb hby d11_27) _ ?_
      show Steps p.tables e below (s₁.setTop (mkF m 28 #[rv ar, iv (0 : Int32), iv vv, iv fr, iv (vv &&& (255 : Int32)), iv (vv &&& (255 : Int32))] [(.int x0)])) _
      refine XS.sipush X0.here hx rfl (hb hby d11_28) ?_
      refine XS.iand X0.here hx rfl (hb hby d11_31) rfl ?_
      refine XS.iload X0.here hx rfl (hb hby d11_32) rfl ?_
      exact k_
    by_cases hc34_6 : (x0 &&& (255 : Int32)) = (vv &&& (255 : Int32))
    · skip
      obtain ⟨fs, hr, hrun, hended, hW, hsame⟩ := X0.leave (v := some (.int (1 : Int32))) (fun h => by rw [Bd.returns] at h; cases h)
      refine ⟨_, _, pre7 _ ?_, hrun, hended, _, _, rfl, ?_, ⟨_, rfl⟩, hW, hsame.mono (by decide) (by decide)⟩
      · show Steps p.tables e below (s₁.setTop (mkF m 34 #[rv ar, iv (0 : Int32), iv vv, iv fr, iv (vv &&& (255 : Int32)), iv (vv &&& (255 : Int32))] [(.int (vv &&& (255 : Int32))), (.int (x0 &&& (255 : Int32)))])) _
        refine XS.icmpNo X0.here hx rfl (hb hby d11_34) rfl (teq hc34_6).2 ?_
        show Steps p.tables e below (s₁.setTop (mkF m 37 #[rv ar, iv (0 : Int32), iv vv, iv fr, iv (vv &&& (255 : Int32)), iv (vv &&& (255 : Int32))] [])) _
        refine XS.iconst X0.here hx rfl (hb hby d11_37) ?_
        refine XS.goto X0.here hx rfl (pc0 := 38) (pc' := 42) rfl (hb hby d11_38) (by decide) (by decide) ?_
        show Steps p.tables e below (s₁.setTop (mkF m 42 #[rv ar, iv (0 : Int32), iv vv, iv fr, iv (vv &&& (255 : Int32)), iv (vv &&& (255 : Int32))] [(.int (1 : Int32))])) _
        exact retN X0 hx (t := .boolean) Bd.returns (by simp) (hb hby d11_42) hr
      · show Q_rm_ok2_0 Z _ _ _ _ _ h0 n0 _ s₁.heap _
        rw [e0]
        exact ⟨(by first | rfl | (simp [*]; done) | (simp_all; done)), N0, rfl⟩
    · skip
      obtain ⟨fs, hr, hrun, hended, hW, hsame⟩ := X0.leave (v := some (.int (0 : Int32))) (fun h => by rw [Bd.returns] at h; cases h)
      refine ⟨_, _, pre7 _ ?_, hrun, hended, _, _, rfl, ?_, ⟨_, rfl⟩, hW, hsame.mono (by decide) (by decide)⟩
      · show Steps p.tables e below (s₁.setTop (mkF m 34 #[rv ar, iv (0 : Int32), iv vv, iv fr, iv (vv &&& (255 : Int32)), iv (vv &&& (255 : Int32))] [(.int (vv &&& (255 : Int32))), (.int (x0 &&& (255 : Int32)))])) _
        refine XS.icmpYes X0.here hx rfl (pc0 := 34) (pc' := 41) rfl (hb hby d11_34) rfl (feq hc34_6).2 (by decide) (by decide) ?_
        refine XS.iconst X0.here hx rfl (hb hby d11_41) ?_
        show Steps p.tables e below (s₁.setTop (mkF m 42 #[rv ar, iv (0 : Int32), iv vv, iv fr, iv (vv &&& (255 : Int32)), iv (vv &&& (255 : Int32))] [(.int (0 : Int32))])) _
        exact retN X0 hx (t := .boolean) Bd.returns (by simp) (hb hby d11_42) hr
      · show Q_rm_ok2_0 Z _ _ _ _ _ h0 n0 _ s₁.heap _
        rw [e0]
        exact ⟨(by first | rfl | (simp [*]; done) | (simp_all; done)), N0, rfl⟩
  · skip
    obtain ⟨kk8, cl8, Ar8, qq8, Sz8, Nn8, Hs8, Gf8⟩ := id pf_A_ar
    have hin9 : ¬ ((0 : Int32) < 0 ∨ cl8.slots.size ≤ ((0 : Int32)).toNatClampNeg) := inb_of Sz8 ⟨by decide, by decide⟩
    have hat10 : cl8.slots[((0 : Int32)).toNatClampNeg]? = some (.int x0) := Has.at Hs8 hin9 rfl
    have pre12 : ∀ t, Steps p.tables e below (s₁.setTop (mkF m 34 #[rv ar, iv (0 : Int32), iv vv, iv fr, iv (vv &&& (255 : Int32)), iv ((255 : Int32) - (vv &&& (255 : Int32)))] [(.int ((255 : Int32) - (vv &&& (255 : Int32)))), (.int (x0 &&& (255 : Int32)))])) t → Steps p.tables e below (s₁.setTop (entryFrame m #[(.ref ar), (.int (0 : Int32)), (.int vv), (.int fr)] 6)) t := by
      intro t_ k_
      refine pre2 _ ?_
      show Steps p.tables e below (s₁.setTop (mkF m 9 #[rv ar, iv (0 : Int32), iv vv, iv fr, iv (vv &&& (255 : Int32)), .unset] [(.int fr), (.int (0 : Int32))])) _
      refine XS.icmpYes X0.here hx rfl (pc0 := 9) (pc' := 17) rfl (hb hby d11_9) rfl (flt hc9_1).2.1 (by decide) (by decide) ?_
      refine XS.sipush X0.here hx rfl (hb hby d11_17) ?_
      refine XS.iload X0.here hx rfl (hb hby d11_20) rfl ?_
      show Steps p.tables e below (s₁.setTop (mkF m 22 #[rv ar, iv (0 : Int32), iv vv, iv fr, iv (vv &&& (255 : Int32)), .unset] [(.int (vv &&& (255 : Int32))), (.int (255 : Int32))])) _
      refine XS.isub X0.here hx rfl (hb hby d11_22) rfl ?_
      refine XS.istore X0.here hx rfl (hb hby d11_23) rfl (l' := #[rv ar, iv (0 : Int32), iv vv, iv fr, iv (vv &&& (255 : Int32)), iv ((255 : Int32) - (vv &&& (255 : Int32)))]) rfl ?_
      refine XS.aloadN X0.here hx rfl (hb hby d11_25) rfl rfl ?_
      refine XS.iloadN X0.here hx rfl (hb hby d11_26) rfl ?_
      show Steps p.tables e below (s₁.setTop (mkF m 27 #[rv ar, iv (0 : Int32), iv vv, iv fr, iv (vv &&& (255 : Int32)), iv ((255 : Int32) - (vv &&& (255 : Int32)))] [(.int (0 : Int32)), (.ref ar)])) _
      refine X0.baloadBytes hx (j := (0 : Int32)) (v := (.int x0)) (by rw [e0]; exact Ar8.1) (State.isArrayOf_alike hZ.alike Ar8.2.1) Ar8.2.2 hin9 hat10 (g := (mkF m 27 #[rv ar, iv (0 : Int32), iv vv, iv fr, iv (vv &&& (255 : Int32)), iv ((255 : Int32) - (vv &&& (255 : Int32)))] [(.int (0 : Int32)), (.ref ar)])) rfl rfl (hb hby d11_27) _ ?_
      show Steps p.tables e below (s₁.setTop (mkF m 28 #[rv ar, iv (0 : Int32), iv vv, iv fr, iv (vv &&& (255 : Int32)), iv ((255 : Int32) - (vv &&& (255 : Int32)))] [(.int x0)])) _
      refine XS.sipush X0.here hx rfl (hb hby d11_28) ?_
      refine XS.iand X0.here hx rfl (hb hby d11_31) rfl ?_
      refine XS.iload X0.here hx rfl (hb hby d11_32) rfl ?_
      exact k_
    by_cases hc34_11 : (x0 &&& (255 : Int32)) = ((255 : Int32) - (vv &&& (255 : Int32)))
    · skip
      obtain ⟨fs, hr, hrun, hended, hW, hsame⟩ := X0.leave (v := some (.int (1 : Int32))) (fun h => by rw [Bd.returns] at h; cases h)
      refine ⟨_, _, pre12 _ ?_, hrun, hended, _, _, rfl, ?_, ⟨_, rfl⟩, hW, hsame.mono (by decide) (by decide)⟩
      · show Steps p.tables e below (s₁.setTop (mkF m 34 #[rv ar, iv (0 : Int32), iv vv, iv fr, iv (vv &&& (255 : Int32)), iv ((255 : Int32) - (vv &&& (255 : Int32)))] [(.int ((255 : Int32) - (vv &&& (255 : Int32)))), (.int (x0 &&& (255 : Int32)))])) _
        refine XS.icmpNo X0.here hx rfl (hb hby d11_34) rfl (teq hc34_11).2 ?_
        show Steps p.tables e below (s₁.setTop (mkF m 37 #[rv ar, iv (0 : Int32), iv vv, iv fr, iv (vv &&& (255 : Int32)), iv ((255 : Int32) - (vv &&& (255 : Int32)))] [])) _
        refine XS.iconst X0.here hx rfl (hb hby d11_37) ?_
        refine XS.goto X0.here hx rfl (pc0 := 38) (pc' := 42) rfl (hb hby d11_38) (by decide) (by decide) ?_
        show Steps p.tables e below (s₁.setTop (mkF m 42 #[rv ar, iv (0 : Int32), iv vv, iv fr, iv (vv &&& (255 : Int32)), iv ((255 : Int32) - (vv &&& (255 : Int32)))] [(.int (1 : Int32))])) _
        exact retN X0 hx (t := .boolean) Bd.returns (by simp) (hb hby d11_42) hr
      · show Q_rm_ok2_0 Z _ _ _ _ _ h0 n0 _ s₁.heap _
        rw [e0]
        exact ⟨(by first | rfl | (simp [*]; done) | (simp_all; done)), N0, rfl⟩
    · skip
      obtain ⟨fs, hr, hrun, hended, hW, hsame⟩ := X0.leave (v := some (.int (0 : Int32))) (fun h => by rw [Bd.returns] at h; cases h)
      refine ⟨_, _, pre12 _ ?_, hrun, hended, _, _, rfl, ?_, ⟨_, rfl⟩, hW, hsame.mono (by decide) (by decide)⟩
      · show Steps p.tables e below (s₁.setTop (mkF m 34 #[rv ar, iv (0 : Int32), iv vv, iv fr, iv (vv &&& (255 : Int32)), iv ((255 : Int32) - (vv &&& (255 : Int32)))] [(.int ((255 : Int32) - (vv &&& (255 : Int32)))), (.int (x0 &&& (255 : Int32)))])) _
        refine XS.icmpYes X0.here hx rfl (pc0 := 34) (pc' := 41) rfl (hb hby d11_34) rfl (feq hc34_11).2 (by decide) (by decide) ?_
        refine XS.iconst X0.here hx rfl (hb hby d11_41) ?_
        show Steps p.tables e below (s₁.setTop (mkF m 42 #[rv ar, iv (0 : Int32), iv vv, iv fr, iv (vv &&& (255 : Int32)), iv ((255 : Int32) - (vv &&& (255 : Int32)))] [(.int (0 : Int32))])) _
        exact retN X0 hx (t := .boolean) Bd.returns (by simp) (hb hby d11_42) hr
      · show Q_rm_ok2_0 Z _ _ _ _ _ h0 n0 _ s₁.heap _
        rw [e0]
        exact ⟨(by first | rfl | (simp [*]; done) | (simp_all; done)), N0, rfl⟩
theorem ef_rm_ok2_1 (m : MethodId) (x0 : Addr) (x1 : Int32) (x2 : Int32) (x3 : Int32) : entryFrame m #[(.ref x0), (.int x1), (.int x2), (.int x3)] 6 = mkF m 0 #[rv x0, iv x1, iv x2, iv x3, .unset, .unset] [] := by first | (simp [entryFrame, mkF, argsToLocals, Value.category]; done) | rfl
def Q_rm_ok2_1 (Z : State) (ar : Addr) (vv : Int32) (fr : Int32) (x0 : Int32) (x1 : Int32) (h0 : Heap) (n0 : Nat) (v : Option Value) (h : Heap) (L : List Loc) : Prop := v = some (.int (if (x1 &&& (255 : Int32)) = (if (1 : Int32) < fr then (vv &&& (255 : Int32)) else ((255 : Int32) - (vv &&& (255 : Int32)))) then (1 : Int32) else (0 : Int32))) ∧ Fr n0 L ∧ h = h0
set_option maxRecDepth 65536 in
set_option maxHeartbeats 40000000 in
theorem rm_ok2_1 (l : Launch) (Z : State) (a0 : Array Value) (hw : ∀ d ∈ tables_1, d.before a0 Z = true) (ws : List Jvm.Cond) (ar : Addr) (vv : Int32) (fr : Int32) (x0 : Int32) (x1 : Int32) (h0 : Heap) (n0 : Nat) (Z0 : n0 ≤ h0.size) (pf_A_ar : Av Z h0 ar .byte (2 : Int32) [(.int x0), (.int x1)] (.int (0 : Int32))) :
    MetFree l (⟨"com/example/dido/dido/keys/KeyWriterInvertPinLaw", "ok", "([BIII)Z"⟩ : MethodName) (head1 (Jvm.Cond.code (⟨"com/example/dido/dido/keys/KeyWriterInvertPinLaw", "ok", "([BIII)Z"⟩ : MethodName) method_2_code 6 (some .boolean) :: ws) ({ frames := 0, cells := 0, slots := 0, locals := 0 } : Room)) (fun a U => a = #[(.ref ar), (.int (1 : Int32)), (.int vv), (.int fr)] ∧ Z.Warmed39 U.vm ∧ U.heap = h0) (fun _ _ _ _ _ => True) (fun _ U o U' => ∃ v L, o = .returned v ∧ Q_rm_ok2_1 Z ar vv fr x0 x1 h0 n0 v U'.heap L ∧ FrameEnd U o U' L ({ frames := 0, cells := 0, slots := 0, locals := 0 } : Room).cells ({ frames := 0, cells := 0, slots := 0, locals := 0 } : Room).slots) := by
  refine MetFree.of_bodySF (plainFor_of_name pn_com_example_dido_dido_keys_KeyWriterInvertPinLaw) hisR ?_
  intro p e s m args below meth c s₁ Bd hml0 hP hK
  obtain ⟨rfl, hZ, hh⟩ := hP
  have hx := Bd.exec
  have hby := Bd.bytes
  have hml : c.maxLocals = 6 := hml0
  have hown : s.vm.findClass "com/example/dido/dido/keys/KeyWriterInvertPinLaw" = some m.cls := findClass_of_methodNamed Bd.named
  have hnm := (name_of_methodNamed Bd.named Bd.method).1
  have X0 : Stand p l e ({ frames := 0, cells := 0, slots := 0, locals := 0 } : Room) s m #[(.ref ar), (.int (1 : Int32)), (.int vv), (.int fr)] below meth c s₁ [] 0 0 := Stand.of_body Bd
  have e0 : s₁.heap = h0 := by rw [← hh, Bd.state]; rfl
  have N0 := Fr.nil n0
  have pre0 : ∀ t, Steps p.tables e below (s₁.setTop (mkF m 0 #[rv ar, iv (1 : Int32), iv vv, iv fr, .unset, .unset] [])) t → Steps p.tables e below (s₁.setTop (entryFrame m #[(.ref ar), (.int (1 : Int32)), (.int vv), (.int fr)] 6)) t := fun t k => castTop (ef_rm_ok2_1 m ar (1 : Int32) vv fr) k
  have pre2 : ∀ t, Steps p.tables e below (s₁.setTop (mkF m 9 #[rv ar, iv (1 : Int32), iv vv, iv fr, iv (vv &&& (255 : Int32)), .unset] [(.int fr), (.int (1 : Int32))])) t → Steps p.tables e below (s₁.setTop (entryFrame m #[(.ref ar), (.int (1 : Int32)), (.int vv), (.int fr)] 6)) t := by
    intro t_ k_
    refine pre0 _ ?_
    show Steps p.tables e below (s₁.setTop (mkF m 0 #[rv ar, iv (1 : Int32), iv vv, iv fr, .unset, .unset] [])) _
    refine XS.iloadN X0.here hx rfl (hb hby d11_0) rfl ?_
    refine XS.sipush X0.here hx rfl (hb hby d11_1) ?_
    refine XS.iand X0.here hx rfl (hb hby d11_4) rfl ?_
    refine XS.istore X0.here hx rfl (hb hby d11_5) rfl (l' := #[rv ar, iv (1 : Int32), iv vv, iv fr, iv (vv &&& (255 : Int32)), .unset]) rfl ?_
    show Steps p.tables e below (s₁.setTop (mkF m 7 #[rv ar, iv (1 : Int32), iv vv, iv fr, iv (vv &&& (255 : Int32)), .unset] [])) _
    refine XS.iloadN X0.here hx rfl (hb hby d11_7) rfl ?_
    refine XS.iloadN X0.here hx rfl (hb hby d11_8) rfl ?_
    exact k_
  by_cases hc9_1 : (1 : Int32) < fr
  · skip
    obtain ⟨kk3, cl3, Ar3, qq3, Sz3, Nn3, Hs3, Gf3⟩ := id pf_A_ar
    have hin4 : ¬ ((1 : Int32) < 0 ∨ cl3.slots.size ≤ ((1 : Int32)).toNatClampNeg) := inb_of Sz3 ⟨by decide, by decide⟩
    have hat5 : cl3.slots[((1 : Int32)).toNatClampNeg]? = some (.int x1) := Has.at Hs3 hin4 rfl
    have pre7 : ∀ t, Steps p.tables e below (s₁.setTop (mkF m 34 #[rv ar, iv (1 : Int32), iv vv, iv fr, iv (vv &&& (255 : Int32)), iv (vv &&& (255 : Int32))] [(.int (vv &&& (255 : Int32))), (.int (x1 &&& (255 : Int32)))])) t → Steps p.tables e below (s₁.setTop (entryFrame m #[(.ref ar), (.int (1 : Int32)), (.int vv), (.int fr)] 6)) t := by
      intro t_ k_
      refine pre2 _ ?_
      show Steps p.tables e below (s₁.setTop (mkF m 9 #[rv ar, iv (1 : Int32), iv vv, iv fr, iv (vv &&& (255 : Int32)), .unset] [(.int fr), (.int (1 : Int32))])) _
      refine XS.icmpNo X0.here hx rfl (hb hby d11_9) rfl (tlt hc9_1).2.1 ?_
      refine XS.iload X0.here hx rfl (hb hby d11_12) rfl ?_
      show Steps p.tables e below (s₁.setTop (mkF m 14 #[rv ar, iv (1 : Int32), iv vv, iv fr, iv (vv &&& (255 : Int32)), .unset] [(.int (vv &&& (255 : Int32)))])) _
      refine XS.goto X0.here hx rfl (pc0 := 14) (pc' := 23) rfl (hb hby d11_14) (by decide) (by decide) ?_
      refine XS.istore X0.here hx rfl (hb hby d11_23) rfl (l' := #[rv ar, iv (1 : Int32), iv vv, iv fr, iv (vv &&& (255 : Int32)), iv (vv &&& (255 : Int32))]) rfl ?_
      refine XS.aloadN X0.here hx rfl (hb hby d11_25) rfl rfl ?_
      refine XS.iloadN X0.here hx rfl (hb hby d11_26) rfl ?_
      show Steps p.tables e below (s₁.setTop (mkF m 27 #[rv ar, iv (1 : Int32), iv vv, iv fr, iv (vv &&& (255 : Int32)), iv (vv &&& (255 : Int32))] [(.int (1 : Int32)), (.ref ar)])) _
      refine X0.baloadBytes hx (j := (1 : Int32)) (v := (.int x1)) (by rw [e0]; exact Ar3.1) (State.isArrayOf_alike hZ.alike Ar3.2.1) Ar3.2.2 hin4 hat5 (g := (mkF m 27 #[rv ar, iv (1 : Int32), iv vv, iv fr, iv (vv &&& (255 : Int32)), iv (vv &&& (255 : Int32))] [(.int (1 : Int32)), (.ref ar)])) rfl rfl (hb hby d11_27) _ ?_
      show Steps p.tables e below (s₁.setTop (mkF m 28 #[rv ar, iv (1 : Int32), iv vv, iv fr, iv (vv &&& (255 : Int32)), iv (vv &&& (255 : Int32))] [(.int x1)])) _
      refine XS.sipush X0.here hx rfl (hb hby d11_28) ?_
      refine XS.iand X0.here hx rfl (hb hby d11_31) rfl ?_
      refine XS.iload X0.here hx rfl (hb hby d11_32) rfl ?_
      exact k_
    by_cases hc34_6 : (x1 &&& (255 : Int32)) = (vv &&& (255 : Int32))
    · skip
      obtain ⟨fs, hr, hrun, hended, hW, hsame⟩ := X0.leave (v := some (.int (1 : Int32))) (fun h => by rw [Bd.returns] at h; cases h)
      refine ⟨_, _, pre7 _ ?_, hrun, hended, _, _, rfl, ?_, ⟨_, rfl⟩, hW, hsame.mono (by decide) (by decide)⟩
      · show Steps p.tables e below (s₁.setTop (mkF m 34 #[rv ar, iv (1 : Int32), iv vv, iv fr, iv (vv &&& (255 : Int32)), iv (vv &&& (255 : Int32))] [(.int (vv &&& (255 : Int32))), (.int (x1 &&& (255 : Int32)))])) _
        refine XS.icmpNo X0.here hx rfl (hb hby d11_34) rfl (teq hc34_6).2 ?_
        show Steps p.tables e below (s₁.setTop (mkF m 37 #[rv ar, iv (1 : Int32), iv vv, iv fr, iv (vv &&& (255 : Int32)), iv (vv &&& (255 : Int32))] [])) _
        refine XS.iconst X0.here hx rfl (hb hby d11_37) ?_
        refine XS.goto X0.here hx rfl (pc0 := 38) (pc' := 42) rfl (hb hby d11_38) (by decide) (by decide) ?_
        show Steps p.tables e below (s₁.setTop (mkF m 42 #[rv ar, iv (1 : Int32), iv vv, iv fr, iv (vv &&& (255 : Int32)), iv (vv &&& (255 : Int32))] [(.int (1 : Int32))])) _
        exact retN X0 hx (t := .boolean) Bd.returns (by simp) (hb hby d11_42) hr
      · show Q_rm_ok2_1 Z _ _ _ _ _ h0 n0 _ s₁.heap _
        rw [e0]
        exact ⟨(by first | rfl | (simp [*]; done) | (simp_all; done)), N0, rfl⟩
    · skip
      obtain ⟨fs, hr, hrun, hended, hW, hsame⟩ := X0.leave (v := some (.int (0 : Int32))) (fun h => by rw [Bd.returns] at h; cases h)
      refine ⟨_, _, pre7 _ ?_, hrun, hended, _, _, rfl, ?_, ⟨_, rfl⟩, hW, hsame.mono (by decide) (by decide)⟩
      · show Steps p.tables e below (s₁.setTop (mkF m 34 #[rv ar, iv (1 : Int32), iv vv, iv fr, iv (vv &&& (255 : Int32)), iv (vv &&& (255 : Int32))] [(.int (vv &&& (255 : Int32))), (.int (x1 &&& (255 : Int32)))])) _
        refine XS.icmpYes X0.here hx rfl (pc0 := 34) (pc' := 41) rfl (hb hby d11_34) rfl (feq hc34_6).2 (by decide) (by decide) ?_
        refine XS.iconst X0.here hx rfl (hb hby d11_41) ?_
        show Steps p.tables e below (s₁.setTop (mkF m 42 #[rv ar, iv (1 : Int32), iv vv, iv fr, iv (vv &&& (255 : Int32)), iv (vv &&& (255 : Int32))] [(.int (0 : Int32))])) _
        exact retN X0 hx (t := .boolean) Bd.returns (by simp) (hb hby d11_42) hr
      · show Q_rm_ok2_1 Z _ _ _ _ _ h0 n0 _ s₁.heap _
        rw [e0]
        exact ⟨(by first | rfl | (simp [*]; done) | (simp_all; done)), N0, rfl⟩
  · skip
    obtain ⟨kk8, cl8, Ar8, qq8, Sz8, Nn8, Hs8, Gf8⟩ := id pf_A_ar
    have hin9 : ¬ ((1 : Int32) < 0 ∨ cl8.slots.size ≤ ((1 : Int32)).toNatClampNeg) := inb_of Sz8 ⟨by decide, by decide⟩
    have hat10 : cl8.slots[((1 : Int32)).toNatClampNeg]? = some (.int x1) := Has.at Hs8 hin9 rfl
    have pre12 : ∀ t, Steps p.tables e below (s₁.setTop (mkF m 34 #[rv ar, iv (1 : Int32), iv vv, iv fr, iv (vv &&& (255 : Int32)), iv ((255 : Int32) - (vv &&& (255 : Int32)))] [(.int ((255 : Int32) - (vv &&& (255 : Int32)))), (.int (x1 &&& (255 : Int32)))])) t → Steps p.tables e below (s₁.setTop (entryFrame m #[(.ref ar), (.int (1 : Int32)), (.int vv), (.int fr)] 6)) t := by
      intro t_ k_
      refine pre2 _ ?_
      show Steps p.tables e below (s₁.setTop (mkF m 9 #[rv ar, iv (1 : Int32), iv vv, iv fr, iv (vv &&& (255 : Int32)), .unset] [(.int fr), (.int (1 : Int32))])) _
      refine XS.icmpYes X0.here hx rfl (pc0 := 9) (pc' := 17) rfl (hb hby d11_9) rfl (flt hc9_1).2.1 (by decide) (by decide) ?_
      refine XS.sipush X0.here hx rfl (hb hby d11_17) ?_
      refine XS.iload X0.here hx rfl (hb hby d11_20) rfl ?_
      show Steps p.tables e below (s₁.setTop (mkF m 22 #[rv ar, iv (1 : Int32), iv vv, iv fr, iv (vv &&& (255 : Int32)), .unset] [(.int (vv &&& (255 : Int32))), (.int (255 : Int32))])) _
      refine XS.isub X0.here hx rfl (hb hby d11_22) rfl ?_
      refine XS.istore X0.here hx rfl (hb hby d11_23) rfl (l' := #[rv ar, iv (1 : Int32), iv vv, iv fr, iv (vv &&& (255 : Int32)), iv ((255 : Int32) - (vv &&& (255 : Int32)))]) rfl ?_
      refine XS.aloadN X0.here hx rfl (hb hby d11_25) rfl rfl ?_
      refine XS.iloadN X0.here hx rfl (hb hby d11_26) rfl ?_
      show Steps p.tables e below (s₁.setTop (mkF m 27 #[rv ar, iv (1 : Int32), iv vv, iv fr, iv (vv &&& (255 : Int32)), iv ((255 : Int32) - (vv &&& (255 : Int32)))] [(.int (1 : Int32)), (.ref ar)])) _
      refine X0.baloadBytes hx (j := (1 : Int32)) (v := (.int x1)) (by rw [e0]; exact Ar8.1) (State.isArrayOf_alike hZ.alike Ar8.2.1) Ar8.2.2 hin9 hat10 (g := (mkF m 27 #[rv ar, iv (1 : Int32), iv vv, iv fr, iv (vv &&& (255 : Int32)), iv ((255 : Int32) - (vv &&& (255 : Int32)))] [(.int (1 : Int32)), (.ref ar)])) rfl rfl (hb hby d11_27) _ ?_
      show Steps p.tables e below (s₁.setTop (mkF m 28 #[rv ar, iv (1 : Int32), iv vv, iv fr, iv (vv &&& (255 : Int32)), iv ((255 : Int32) - (vv &&& (255 : Int32)))] [(.int x1)])) _
      refine XS.sipush X0.here hx rfl (hb hby d11_28) ?_
      refine XS.iand X0.here hx rfl (hb hby d11_31) rfl ?_
      refine XS.iload X0.here hx rfl (hb hby d11_32) rfl ?_
      exact k_
    by_cases hc34_11 : (x1 &&& (255 : Int32)) = ((255 : Int32) - (vv &&& (255 : Int32)))
    · skip
      obtain ⟨fs, hr, hrun, hended, hW, hsame⟩ := X0.leave (v := some (.int (1 : Int32))) (fun h => by rw [Bd.returns] at h; cases h)
      refine ⟨_, _, pre12 _ ?_, hrun, hended, _, _, rfl, ?_, ⟨_, rfl⟩, hW, hsame.mono (by decide) (by decide)⟩
      · show Steps p.tables e below (s₁.setTop (mkF m 34 #[rv ar, iv (1 : Int32), iv vv, iv fr, iv (vv &&& (255 : Int32)), iv ((255 : Int32) - (vv &&& (255 : Int32)))] [(.int ((255 : Int32) - (vv &&& (255 : Int32)))), (.int (x1 &&& (255 : Int32)))])) _
        refine XS.icmpNo X0.here hx rfl (hb hby d11_34) rfl (teq hc34_11).2 ?_
        show Steps p.tables e below (s₁.setTop (mkF m 37 #[rv ar, iv (1 : Int32), iv vv, iv fr, iv (vv &&& (255 : Int32)), iv ((255 : Int32) - (vv &&& (255 : Int32)))] [])) _
        refine XS.iconst X0.here hx rfl (hb hby d11_37) ?_
        refine XS.goto X0.here hx rfl (pc0 := 38) (pc' := 42) rfl (hb hby d11_38) (by decide) (by decide) ?_
        show Steps p.tables e below (s₁.setTop (mkF m 42 #[rv ar, iv (1 : Int32), iv vv, iv fr, iv (vv &&& (255 : Int32)), iv ((255 : Int32) - (vv &&& (255 : Int32)))] [(.int (1 : Int32))])) _
        exact retN X0 hx (t := .boolean) Bd.returns (by simp) (hb hby d11_42) hr
      · show Q_rm_ok2_1 Z _ _ _ _ _ h0 n0 _ s₁.heap _
        rw [e0]
        exact ⟨(by first | rfl | (simp [*]; done) | (simp_all; done)), N0, rfl⟩
    · skip
      obtain ⟨fs, hr, hrun, hended, hW, hsame⟩ := X0.leave (v := some (.int (0 : Int32))) (fun h => by rw [Bd.returns] at h; cases h)
      refine ⟨_, _, pre12 _ ?_, hrun, hended, _, _, rfl, ?_, ⟨_, rfl⟩, hW, hsame.mono (by decide) (by decide)⟩
      · show Steps p.tables e below (s₁.setTop (mkF m 34 #[rv ar, iv (1 : Int32), iv vv, iv fr, iv (vv &&& (255 : Int32)), iv ((255 : Int32) - (vv &&& (255 : Int32)))] [(.int ((255 : Int32) - (vv &&& (255 : Int32)))), (.int (x1 &&& (255 : Int32)))])) _
        refine XS.icmpYes X0.here hx rfl (pc0 := 34) (pc' := 41) rfl (hb hby d11_34) rfl (feq hc34_11).2 (by decide) (by decide) ?_
        refine XS.iconst X0.here hx rfl (hb hby d11_41) ?_
        show Steps p.tables e below (s₁.setTop (mkF m 42 #[rv ar, iv (1 : Int32), iv vv, iv fr, iv (vv &&& (255 : Int32)), iv ((255 : Int32) - (vv &&& (255 : Int32)))] [(.int (0 : Int32))])) _
        exact retN X0 hx (t := .boolean) Bd.returns (by simp) (hb hby d11_42) hr
      · show Q_rm_ok2_1 Z _ _ _ _ _ h0 n0 _ s₁.heap _
        rw [e0]
        exact ⟨(by first | rfl | (simp [*]; done) | (simp_all; done)), N0, rfl⟩
theorem ef_rm_ok3_0 (m : MethodId) (x0 : Addr) (x1 : Int32) (x2 : Int32) (x3 : Int32) : entryFrame m #[(.ref x0), (.int x1), (.int x2), (.int x3)] 6 = mkF m 0 #[rv x0, iv x1, iv x2, iv x3, .unset, .unset] [] := by first | (simp [entryFrame, mkF, argsToLocals, Value.category]; done) | rfl
def Q_rm_ok3_0 (Z : State) (ar : Addr) (vv : Int32) (fr : Int32) (x0 : Int32) (x1 : Int32) (x2 : Int32) (h0 : Heap) (n0 : Nat) (v : Option Value) (h : Heap) (L : List Loc) : Prop := v = some (.int (if (x0 &&& (255 : Int32)) = (if (0 : Int32) < fr then (vv &&& (255 : Int32)) else ((255 : Int32) - (vv &&& (255 : Int32)))) then (1 : Int32) else (0 : Int32))) ∧ Fr n0 L ∧ h = h0
set_option maxRecDepth 65536 in
set_option maxHeartbeats 40000000 in
theorem rm_ok3_0 (l : Launch) (Z : State) (a0 : Array Value) (hw : ∀ d ∈ tables_1, d.before a0 Z = true) (ws : List Jvm.Cond) (ar : Addr) (vv : Int32) (fr : Int32) (x0 : Int32) (x1 : Int32) (x2 : Int32) (h0 : Heap) (n0 : Nat) (Z0 : n0 ≤ h0.size) (pf_A_ar : Av Z h0 ar .byte (3 : Int32) [(.int x0), (.int x1), (.int x2)] (.int (0 : Int32))) :
    MetFree l (⟨"com/example/dido/dido/keys/KeyWriterInvertPinLaw", "ok", "([BIII)Z"⟩ : MethodName) (head1 (Jvm.Cond.code (⟨"com/example/dido/dido/keys/KeyWriterInvertPinLaw", "ok", "([BIII)Z"⟩ : MethodName) method_2_code 6 (some .boolean) :: ws) ({ frames := 0, cells := 0, slots := 0, locals := 0 } : Room)) (fun a U => a = #[(.ref ar), (.int (0 : Int32)), (.int vv), (.int fr)] ∧ Z.Warmed39 U.vm ∧ U.heap = h0) (fun _ _ _ _ _ => True) (fun _ U o U' => ∃ v L, o = .returned v ∧ Q_rm_ok3_0 Z ar vv fr x0 x1 x2 h0 n0 v U'.heap L ∧ FrameEnd U o U' L ({ frames := 0, cells := 0, slots := 0, locals := 0 } : Room).cells ({ frames := 0, cells := 0, slots := 0, locals := 0 } : Room).slots) := by
  refine MetFree.of_bodySF (plainFor_of_name pn_com_example_dido_dido_keys_KeyWriterInvertPinLaw) hisR ?_
  intro p e s m args below meth c s₁ Bd hml0 hP hK
  obtain ⟨rfl, hZ, hh⟩ := hP
  have hx := Bd.exec
  have hby := Bd.bytes
  have hml : c.maxLocals = 6 := hml0
  have hown : s.vm.findClass "com/example/dido/dido/keys/KeyWriterInvertPinLaw" = some m.cls := findClass_of_methodNamed Bd.named
  have hnm := (name_of_methodNamed Bd.named Bd.method).1
  have X0 : Stand p l e ({ frames := 0, cells := 0, slots := 0, locals := 0 } : Room) s m #[(.ref ar), (.int (0 : Int32)), (.int vv), (.int fr)] below meth c s₁ [] 0 0 := Stand.of_body Bd
  have e0 : s₁.heap = h0 := by rw [← hh, Bd.state]; rfl
  have N0 := Fr.nil n0
  have pre0 : ∀ t, Steps p.tables e below (s₁.setTop (mkF m 0 #[rv ar, iv (0 : Int32), iv vv, iv fr, .unset, .unset] [])) t → Steps p.tables e below (s₁.setTop (entryFrame m #[(.ref ar), (.int (0 : Int32)), (.int vv), (.int fr)] 6)) t := fun t k => castTop (ef_rm_ok3_0 m ar (0 : Int32) vv fr) k
  have pre2 : ∀ t, Steps p.tables e below (s₁.setTop (mkF m 9 #[rv ar, iv (0 : Int32), iv vv, iv fr, iv (vv &&& (255 : Int32)), .unset] [(.int fr), (.int (0 : Int32))])) t → Steps p.tables e below (s₁.setTop (entryFrame m #[(.ref ar), (.int (0 : Int32)), (.int vv), (.int fr)] 6)) t := by
    intro t_ k_
    refine pre0 _ ?_
    show Steps p.tables e below (s₁.setTop (mkF m 0 #[rv ar, iv (0 : Int32), iv vv, iv fr, .unset, .unset] [])) _
    refine XS.iloadN X0.here hx rfl (hb hby d11_0) rfl ?_
    refine XS.sipush X0.here hx rfl (hb hby d11_1) ?_
    refine XS.iand X0.here hx rfl (hb hby d11_4) rfl ?_
    refine XS.istore X0.here hx rfl (hb hby d11_5) rfl (l' := #[rv ar, iv (0 : Int32), iv vv, iv fr, iv (vv &&& (255 : Int32)), .unset]) rfl ?_
    show Steps p.tables e below (s₁.setTop (mkF m 7 #[rv ar, iv (0 : Int32), iv vv, iv fr, iv (vv &&& (255 : Int32)), .unset] [])) _
    refine XS.iloadN X0.here hx rfl (hb hby d11_7) rfl ?_
    refine XS.iloadN X0.here hx rfl (hb hby d11_8) rfl ?_
    exact k_
  by_cases hc9_1 : (0 : Int32) < fr
  · skip
    obtain ⟨kk3, cl3, Ar3, qq3, Sz3, Nn3, Hs3, Gf3⟩ := id pf_A_ar
    have hin4 : ¬ ((0 : Int32) < 0 ∨ cl3.slots.size ≤ ((0 : Int32)).toNatClampNeg) := inb_of Sz3 ⟨by decide, by decide⟩
    have hat5 : cl3.slots[((0 : Int32)).toNatClampNeg]? = some (.int x0) := Has.at Hs3 hin4 rfl
    have pre7 : ∀ t, Steps p.tables e below (s₁.setTop (mkF m 34 #[rv ar, iv (0 : Int32), iv vv, iv fr, iv (vv &&& (255 : Int32)), iv (vv &&& (255 : Int32))] [(.int (vv &&& (255 : Int32))), (.int (x0 &&& (255 : Int32)))])) t → Steps p.tables e below (s₁.setTop (entryFrame m #[(.ref ar), (.int (0 : Int32)), (.int vv), (.int fr)] 6)) t := by
      intro t_ k_
      refine pre2 _ ?_
      show Steps p.tables e below (s₁.setTop (mkF m 9 #[rv ar, iv (0 : Int32), iv vv, iv fr, iv (vv &&& (255 : Int32)), .unset] [(.int fr), (.int (0 : Int32))])) _
      refine XS.icmpNo X0.here hx rfl (hb hby d11_9) rfl (tlt hc9_1).2.1 ?_
      refine XS.iload X0.here hx rfl (hb hby d11_12) rfl ?_
      show Steps p.tables e below (s₁.setTop (mkF m 14 #[rv ar, iv (0 : Int32), iv vv, iv fr, iv (vv &&& (255 : Int32)), .unset] [(.int (vv &&& (255 : Int32)))])) _
      refine XS.goto X0.here hx rfl (pc0 := 14) (pc' := 23) rfl (hb hby d11_14) (by decide) (by decide) ?_
      refine XS.istore X0.here hx rfl (hb hby d11_23) rfl (l' := #[rv ar, iv (0 : Int32), iv vv, iv fr, iv (vv &&& (255 : Int32)), iv (vv &&& (255 : Int32))]) rfl ?_
      refine XS.aloadN X0.here hx rfl (hb hby d11_25) rfl rfl ?_
      refine XS.iloadN X0.here hx rfl (hb hby d11_26) rfl ?_
      show Steps p.tables e below (s₁.setTop (mkF m 27 #[rv ar, iv (0 : Int32), iv vv, iv fr, iv (vv &&& (255 : Int32)), iv (vv &&& (255 : Int32))] [(.int (0 : Int32)), (.ref ar)])) _
      refine X0.baloadBytes hx (j := (0 : Int32)) (v := (.int x0)) (by rw [e0]; exact Ar3.1) (State.isArrayOf_alike hZ.alike Ar3.2.1) Ar3.2.2 hin4 hat5 (g := (mkF m 27 #[rv ar, iv (0 : Int32), iv vv, iv fr, iv (vv &&& (255 : Int32)), iv (vv &&& (255 : Int32))] [(.int (0 : Int32)), (.ref ar)])) rfl rfl (hb hby d11_27) _ ?_
      show Steps p.tables e below (s₁.setTop (mkF m 28 #[rv ar, iv (0 : Int32), iv vv, iv fr, iv (vv &&& (255 : Int32)), iv (vv &&& (255 : Int32))] [(.int x0)])) _
      refine XS.sipush X0.here hx rfl (hb hby d11_28) ?_
      refine XS.iand X0.here hx rfl (hb hby d11_31) rfl ?_
      refine XS.iload X0.here hx rfl (hb hby d11_32) rfl ?_
      exact k_
    by_cases hc34_6 : (x0 &&& (255 : Int32)) = (vv &&& (255 : Int32))
    · skip
      obtain ⟨fs, hr, hrun, hended, hW, hsame⟩ := X0.leave (v := some (.int (1 : Int32))) (fun h => by rw [Bd.returns] at h; cases h)
      refine ⟨_, _, pre7 _ ?_, hrun, hended, _, _, rfl, ?_, ⟨_, rfl⟩, hW, hsame.mono (by decide) (by decide)⟩
      · show Steps p.tables e below (s₁.setTop (mkF m 34 #[rv ar, iv (0 : Int32), iv vv, iv fr, iv (vv &&& (255 : Int32)), iv (vv &&& (255 : Int32))] [(.int (vv &&& (255 : Int32))), (.int (x0 &&& (255 : Int32)))])) _
        refine XS.icmpNo X0.here hx rfl (hb hby d11_34) rfl (teq hc34_6).2 ?_
        show Steps p.tables e below (s₁.setTop (mkF m 37 #[rv ar, iv (0 : Int32), iv vv, iv fr, iv (vv &&& (255 : Int32)), iv (vv &&& (255 : Int32))] [])) _
        refine XS.iconst X0.here hx rfl (hb hby d11_37) ?_
        refine XS.goto X0.here hx rfl (pc0 := 38) (pc' := 42) rfl (hb hby d11_38) (by decide) (by decide) ?_
        show Steps p.tables e below (s₁.setTop (mkF m 42 #[rv ar, iv (0 : Int32), iv vv, iv fr, iv (vv &&& (255 : Int32)), iv (vv &&& (255 : Int32))] [(.int (1 : Int32))])) _
        exact retN X0 hx (t := .boolean) Bd.returns (by simp) (hb hby d11_42) hr
      · show Q_rm_ok3_0 Z _ _ _ _ _ _ h0 n0 _ s₁.heap _
        rw [e0]
        exact ⟨(by first | rfl | (simp [*]; done) | (simp_all; done)), N0, rfl⟩
    · skip
      obtain ⟨fs, hr, hrun, hended, hW, hsame⟩ := X0.leave (v := some (.int (0 : Int32))) (fun h => by rw [Bd.returns] at h; cases h)
      refine ⟨_, _, pre7 _ ?_, hrun, hended, _, _, rfl, ?_, ⟨_, rfl⟩, hW, hsame.mono (by decide) (by decide)⟩
      · show Steps p.tables e below (s₁.setTop (mkF m 34 #[rv ar, iv (0 : Int32), iv vv, iv fr, iv (vv &&& (255 : Int32)), iv (vv &&& (255 : Int32))] [(.int (vv &&& (255 : Int32))), (.int (x0 &&& (255 : Int32)))])) _
        refine XS.icmpYes X0.here hx rfl (pc0 := 34) (pc' := 41) rfl (hb hby d11_34) rfl (feq hc34_6).2 (by decide) (by decide) ?_
        refine XS.iconst X0.here hx rfl (hb hby d11_41) ?_
        show Steps p.tables e below (s₁.setTop (mkF m 42 #[rv ar, iv (0 : Int32), iv vv, iv fr, iv (vv &&& (255 : Int32)), iv (vv &&& (255 : Int32))] [(.int (0 : Int32))])) _
        exact retN X0 hx (t := .boolean) Bd.returns (by simp) (hb hby d11_42) hr
      · show Q_rm_ok3_0 Z _ _ _ _ _ _ h0 n0 _ s₁.heap _
        rw [e0]
        exact ⟨(by first | rfl | (simp [*]; done) | (simp_all; done)), N0, rfl⟩
  · skip
    obtain ⟨kk8, cl8, Ar8, qq8, Sz8, Nn8, Hs8, Gf8⟩ := id pf_A_ar
    have hin9 : ¬ ((0 : Int32) < 0 ∨ cl8.slots.size ≤ ((0 : Int32)).toNatClampNeg) := inb_of Sz8 ⟨by decide, by decide⟩
    have hat10 : cl8.slots[((0 : Int32)).toNatClampNeg]? = some (.int x0) := Has.at Hs8 hin9 rfl
    have pre12 : ∀ t, Steps p.tables e below (s₁.setTop (mkF m 34 #[rv ar, iv (0 : Int32), iv vv, iv fr, iv (vv &&& (255 : Int32)), iv ((255 : Int32) - (vv &&& (255 : Int32)))] [(.int ((255 : Int32) - (vv &&& (255 : Int32)))), (.int (x0 &&& (255 : Int32)))])) t → Steps p.tables e below (s₁.setTop (entryFrame m #[(.ref ar), (.int (0 : Int32)), (.int vv), (.int fr)] 6)) t := by
      intro t_ k_
      refine pre2 _ ?_
      show Steps p.tables e below (s₁.setTop (mkF m 9 #[rv ar, iv (0 : Int32), iv vv, iv fr, iv (vv &&& (255 : Int32)), .unset] [(.int fr), (.int (0 : Int32))])) _
      refine XS.icmpYes X0.here hx rfl (pc0 := 9) (pc' := 17) rfl (hb hby d11_9) rfl (flt hc9_1).2.1 (by decide) (by decide) ?_
      refine XS.sipush X0.here hx rfl (hb hby d11_17) ?_
      refine XS.iload X0.here hx rfl (hb hby d11_20) rfl ?_
      show Steps p.tables e below (s₁.setTop (mkF m 22 #[rv ar, iv (0 : Int32), iv vv, iv fr, iv (vv &&& (255 : Int32)), .unset] [(.int (vv &&& (255 : Int32))), (.int (255 : Int32))])) _
      refine XS.isub X0.here hx rfl (hb hby d11_22) rfl ?_
      refine XS.istore X0.here hx rfl (hb hby d11_23) rfl (l' := #[rv ar, iv (0 : Int32), iv vv, iv fr, iv (vv &&& (255 : Int32)), iv ((255 : Int32) - (vv &&& (255 : Int32)))]) rfl ?_
      refine XS.aloadN X0.here hx rfl (hb hby d11_25) rfl rfl ?_
      refine XS.iloadN X0.here hx rfl (hb hby d11_26) rfl ?_
      show Steps p.tables e below (s₁.setTop (mkF m 27 #[rv ar, iv (0 : Int32), iv vv, iv fr, iv (vv &&& (255 : Int32)), iv ((255 : Int32) - (vv &&& (255 : Int32)))] [(.int (0 : Int32)), (.ref ar)])) _
      refine X0.baloadBytes hx (j := (0 : Int32)) (v := (.int x0)) (by rw [e0]; exact Ar8.1) (State.isArrayOf_alike hZ.alike Ar8.2.1) Ar8.2.2 hin9 hat10 (g := (mkF m 27 #[rv ar, iv (0 : Int32), iv vv, iv fr, iv (vv &&& (255 : Int32)), iv ((255 : Int32) - (vv &&& (255 : Int32)))] [(.int (0 : Int32)), (.ref ar)])) rfl rfl (hb hby d11_27) _ ?_
      show Steps p.tables e below (s₁.setTop (mkF m 28 #[rv ar, iv (0 : Int32), iv vv, iv fr, iv (vv &&& (255 : Int32)), iv ((255 : Int32) - (vv &&& (255 : Int32)))] [(.int x0)])) _
      refine XS.sipush X0.here hx rfl (hb hby d11_28) ?_
      refine XS.iand X0.here hx rfl (hb hby d11_31) rfl ?_
      refine XS.iload X0.here hx rfl (hb hby d11_32) rfl ?_
      exact k_
    by_cases hc34_11 : (x0 &&& (255 : Int32)) = ((255 : Int32) - (vv &&& (255 : Int32)))
    · skip
      obtain ⟨fs, hr, hrun, hended, hW, hsame⟩ := X0.leave (v := some (.int (1 : Int32))) (fun h => by rw [Bd.returns] at h; cases h)
      refine ⟨_, _, pre12 _ ?_, hrun, hended, _, _, rfl, ?_, ⟨_, rfl⟩, hW, hsame.mono (by decide) (by decide)⟩
      · show Steps p.tables e below (s₁.setTop (mkF m 34 #[rv ar, iv (0 : Int32), iv vv, iv fr, iv (vv &&& (255 : Int32)), iv ((255 : Int32) - (vv &&& (255 : Int32)))] [(.int ((255 : Int32) - (vv &&& (255 : Int32)))), (.int (x0 &&& (255 : Int32)))])) _
        refine XS.icmpNo X0.here hx rfl (hb hby d11_34) rfl (teq hc34_11).2 ?_
        show Steps p.tables e below (s₁.setTop (mkF m 37 #[rv ar, iv (0 : Int32), iv vv, iv fr, iv (vv &&& (255 : Int32)), iv ((255 : Int32) - (vv &&& (255 : Int32)))] [])) _
        refine XS.iconst X0.here hx rfl (hb hby d11_37) ?_
        refine XS.goto X0.here hx rfl (pc0 := 38) (pc' := 42) rfl (hb hby d11_38) (by decide) (by decide) ?_
        show Steps p.tables e below (s₁.setTop (mkF m 42 #[rv ar, iv (0 : Int32), iv vv, iv fr, iv (vv &&& (255 : Int32)), iv ((255 : Int32) - (vv &&& (255 : Int32)))] [(.int (1 : Int32))])) _
        exact retN X0 hx (t := .boolean) Bd.returns (by simp) (hb hby d11_42) hr
      · show Q_rm_ok3_0 Z _ _ _ _ _ _ h0 n0 _ s₁.heap _
        rw [e0]
        exact ⟨(by first | rfl | (simp [*]; done) | (simp_all; done)), N0, rfl⟩
    · skip
      obtain ⟨fs, hr, hrun, hended, hW, hsame⟩ := X0.leave (v := some (.int (0 : Int32))) (fun h => by rw [Bd.returns] at h; cases h)
      refine ⟨_, _, pre12 _ ?_, hrun, hended, _, _, rfl, ?_, ⟨_, rfl⟩, hW, hsame.mono (by decide) (by decide)⟩
      · show Steps p.tables e below (s₁.setTop (mkF m 34 #[rv ar, iv (0 : Int32), iv vv, iv fr, iv (vv &&& (255 : Int32)), iv ((255 : Int32) - (vv &&& (255 : Int32)))] [(.int ((255 : Int32) - (vv &&& (255 : Int32)))), (.int (x0 &&& (255 : Int32)))])) _
        refine XS.icmpYes X0.here hx rfl (pc0 := 34) (pc' := 41) rfl (hb hby d11_34) rfl (feq hc34_11).2 (by decide) (by decide) ?_
        refine XS.iconst X0.here hx rfl (hb hby d11_41) ?_
        show Steps p.tables e below (s₁.setTop (mkF m 42 #[rv ar, iv (0 : Int32), iv vv, iv fr, iv (vv &&& (255 : Int32)), iv ((255 : Int32) - (vv &&& (255 : Int32)))] [(.int (0 : Int32))])) _
        exact retN X0 hx (t := .boolean) Bd.returns (by simp) (hb hby d11_42) hr
      · show Q_rm_ok3_0 Z _ _ _ _ _ _ h0 n0 _ s₁.heap _
        rw [e0]
        exact ⟨(by first | rfl | (simp [*]; done) | (simp_all; done)), N0, rfl⟩
theorem ef_rm_ok3_1 (m : MethodId) (x0 : Addr) (x1 : Int32) (x2 : Int32) (x3 : Int32) : entryFrame m #[(.ref x0), (.int x1), (.int x2), (.int x3)] 6 = mkF m 0 #[rv x0, iv x1, iv x2, iv x3, .unset, .unset] [] := by first | (simp [entryFrame, mkF, argsToLocals, Value.category]; done) | rfl
def Q_rm_ok3_1 (Z : State) (ar : Addr) (vv : Int32) (fr : Int32) (x0 : Int32) (x1 : Int32) (x2 : Int32) (h0 : Heap) (n0 : Nat) (v : Option Value) (h : Heap) (L : List Loc) : Prop := v = some (.int (if (x1 &&& (255 : Int32)) = (if (1 : Int32) < fr then (vv &&& (255 : Int32)) else ((255 : Int32) - (vv &&& (255 : Int32)))) then (1 : Int32) else (0 : Int32))) ∧ Fr n0 L ∧ h = h0
set_option maxRecDepth 65536 in
set_option maxHeartbeats 40000000 in
theorem rm_ok3_1 (l : Launch) (Z : State) (a0 : Array Value) (hw : ∀ d ∈ tables_1, d.before a0 Z = true) (ws : List Jvm.Cond) (ar : Addr) (vv : Int32) (fr : Int32) (x0 : Int32) (x1 : Int32) (x2 : Int32) (h0 : Heap) (n0 : Nat) (Z0 : n0 ≤ h0.size) (pf_A_ar : Av Z h0 ar .byte (3 : Int32) [(.int x0), (.int x1), (.int x2)] (.int (0 : Int32))) :
    MetFree l (⟨"com/example/dido/dido/keys/KeyWriterInvertPinLaw", "ok", "([BIII)Z"⟩ : MethodName) (head1 (Jvm.Cond.code (⟨"com/example/dido/dido/keys/KeyWriterInvertPinLaw", "ok", "([BIII)Z"⟩ : MethodName) method_2_code 6 (some .boolean) :: ws) ({ frames := 0, cells := 0, slots := 0, locals := 0 } : Room)) (fun a U => a = #[(.ref ar), (.int (1 : Int32)), (.int vv), (.int fr)] ∧ Z.Warmed39 U.vm ∧ U.heap = h0) (fun _ _ _ _ _ => True) (fun _ U o U' => ∃ v L, o = .returned v ∧ Q_rm_ok3_1 Z ar vv fr x0 x1 x2 h0 n0 v U'.heap L ∧ FrameEnd U o U' L ({ frames := 0, cells := 0, slots := 0, locals := 0 } : Room).cells ({ frames := 0, cells := 0, slots := 0, locals := 0 } : Room).slots) := by
  refine MetFree.of_bodySF (plainFor_of_name pn_com_example_dido_dido_keys_KeyWriterInvertPinLaw) hisR ?_
  intro p e s m args below meth c s₁ Bd hml0 hP hK
  obtain ⟨rfl, hZ, hh⟩ := hP
  have hx := Bd.exec
  have hby := Bd.bytes
  have hml : c.maxLocals = 6 := hml0
  have hown : s.vm.findClass "com/example/dido/dido/keys/KeyWriterInvertPinLaw" = some m.cls := findClass_of_methodNamed Bd.named
  have hnm := (name_of_methodNamed Bd.named Bd.method).1
  have X0 : Stand p l e ({ frames := 0, cells := 0, slots := 0, locals := 0 } : Room) s m #[(.ref ar), (.int (1 : Int32)), (.int vv), (.int fr)] below meth c s₁ [] 0 0 := Stand.of_body Bd
  have e0 : s₁.heap = h0 := by rw [← hh, Bd.state]; rfl
  have N0 := Fr.nil n0
  have pre0 : ∀ t, Steps p.tables e below (s₁.setTop (mkF m 0 #[rv ar, iv (1 : Int32), iv vv, iv fr, .unset, .unset] [])) t → Steps p.tables e below (s₁.setTop (entryFrame m #[(.ref ar), (.int (1 : Int32)), (.int vv), (.int fr)] 6)) t := fun t k => castTop (ef_rm_ok3_1 m ar (1 : Int32) vv fr) k
  have pre2 : ∀ t, Steps p.tables e below (s₁.setTop (mkF m 9 #[rv ar, iv (1 : Int32), iv vv, iv fr, iv (vv &&& (255 : Int32)), .unset] [(.int fr), (.int (1 : Int32))])) t → Steps p.tables e below (s₁.setTop (entryFrame m #[(.ref ar), (.int (1 : Int32)), (.int vv), (.int fr)] 6)) t := by
    intro t_ k_
    refine pre0 _ ?_
    show Steps p.tables e below (s₁.setTop (mkF m 0 #[rv ar, iv (1 : Int32), iv vv, iv fr, .unset, .unset] [])) _
    refine XS.iloadN X0.here hx rfl (hb hby d11_0) rfl ?_
    refine XS.sipush X0.here hx rfl (hb hby d11_1) ?_
    refine XS.iand X0.here hx rfl (hb hby d11_4) rfl ?_
    refine XS.istore X0.here hx rfl (hb hby d11_5) rfl (l' := #[rv ar, iv (1 : Int32), iv vv, iv fr, iv (vv &&& (255 : Int32)), .unset]) rfl ?_
    show Steps p.tables e below (s₁.setTop (mkF m 7 #[rv ar, iv (1 : Int32), iv vv, iv fr, iv (vv &&& (255 : Int32)), .unset] [])) _
    refine XS.iloadN X0.here hx rfl (hb hby d11_7) rfl ?_
    refine XS.iloadN X0.here hx rfl (hb hby d11_8) rfl ?_
    exact k_
  by_cases hc9_1 : (1 : Int32) < fr
  · skip
    obtain ⟨kk3, cl3, Ar3, qq3, Sz3, Nn3, Hs3, Gf3⟩ := id pf_A_ar
    have hin4 : ¬ ((1 : Int32) < 0 ∨ cl3.slots.size ≤ ((1 : Int32)).toNatClampNeg) := inb_of Sz3 ⟨by decide, by decide⟩
    have hat5 : cl3.slots[((1 : Int32)).toNatClampNeg]? = some (.int x1) := Has.at Hs3 hin4 rfl
    have pre7 : ∀ t, Steps p.tables e below (s₁.setTop (mkF m 34 #[rv ar, iv (1 : Int32), iv vv, iv fr, iv (vv &&& (255 : Int32)), iv (vv &&& (255 : Int32))] [(.int (vv &&& (255 : Int32))), (.int (x1 &&& (255 : Int32)))])) t → Steps p.tables e below (s₁.setTop (entryFrame m #[(.ref ar), (.int (1 : Int32)), (.int vv), (.int fr)] 6)) t := by
      intro t_ k_
      refine pre2 _ ?_
      show Steps p.tables e below (s₁.setTop (mkF m 9 #[rv ar, iv (1 : Int32), iv vv, iv fr, iv (vv &&& (255 : Int32)), .unset] [(.int fr), (.int (1 : Int32))])) _
      refine XS.icmpNo X0.here hx rfl (hb hby d11_9) rfl (tlt hc9_1).2.1 ?_
      refine XS.iload X0.here hx rfl (hb hby d11_12) rfl ?_
      show Steps p.tables e below (s₁.setTop (mkF m 14 #[rv ar, iv (1 : Int32), iv vv, iv fr, iv (vv &&& (255 : Int32)), .unset] [(.int (vv &&& (255 : Int32)))])) _
      refine XS.goto X0.here hx rfl (pc0 := 14) (pc' := 23) rfl (hb hby d11_14) (by decide) (by decide) ?_
      refine XS.istore X0.here hx rfl (hb hby d11_23) rfl (l' := #[rv ar, iv (1 : Int32), iv vv, iv fr, iv (vv &&& (255 : Int32)), iv (vv &&& (255 : Int32))]) rfl ?_
      refine XS.aloadN X0.here hx rfl (hb hby d11_25) rfl rfl ?_
      refine XS.iloadN X0.here hx rfl (hb hby d11_26) rfl ?_
      show Steps p.tables e below (s₁.setTop (mkF m 27 #[rv ar, iv (1 : Int32), iv vv, iv fr, iv (vv &&& (255 : Int32)), iv (vv &&& (255 : Int32))] [(.int (1 : Int32)), (.ref ar)])) _
      refine X0.baloadBytes hx (j := (1 : Int32)) (v := (.int x1)) (by rw [e0]; exact Ar3.1) (State.isArrayOf_alike hZ.alike Ar3.2.1) Ar3.2.2 hin4 hat5 (g := (mkF m 27 #[rv ar, iv (1 : Int32), iv vv, iv fr, iv (vv &&& (255 : Int32)), iv (vv &&& (255 : Int32))] [(.int (1 : Int32)), (.ref ar)])) rfl rfl (hb hby d11_27) _ ?_
      show Steps p.tables e below (s₁.setTop (mkF m 28 #[rv ar, iv (1 : Int32), iv vv, iv fr, iv (vv &&& (255 : Int32)), iv (vv &&& (255 : Int32))] [(.int x1)])) _
      refine XS.sipush X0.here hx rfl (hb hby d11_28) ?_
      refine XS.iand X0.here hx rfl (hb hby d11_31) rfl ?_
      refine XS.iload X0.here hx rfl (hb hby d11_32) rfl ?_
      exact k_
    by_cases hc34_6 : (x1 &&& (255 : Int32)) = (vv &&& (255 : Int32))
    · skip
      obtain ⟨fs, hr, hrun, hended, hW, hsame⟩ := X0.leave (v := some (.int (1 : Int32))) (fun h => by rw [Bd.returns] at h; cases h)
      refine ⟨_, _, pre7 _ ?_, hrun, hended, _, _, rfl, ?_, ⟨_, rfl⟩, hW, hsame.mono (by decide) (by decide)⟩
      · show Steps p.tables e below (s₁.setTop (mkF m 34 #[rv ar, iv (1 : Int32), iv vv, iv fr, iv (vv &&& (255 : Int32)), iv (vv &&& (255 : Int32))] [(.int (vv &&& (255 : Int32))), (.int (x1 &&& (255 : Int32)))])) _
        refine XS.icmpNo X0.here hx rfl (hb hby d11_34) rfl (teq hc34_6).2 ?_
        show Steps p.tables e below (s₁.setTop (mkF m 37 #[rv ar, iv (1 : Int32), iv vv, iv fr, iv (vv &&& (255 : Int32)), iv (vv &&& (255 : Int32))] [])) _
        refine XS.iconst X0.here hx rfl (hb hby d11_37) ?_
        refine XS.goto X0.here hx rfl (pc0 := 38) (pc' := 42) rfl (hb hby d11_38) (by decide) (by decide) ?_
        show Steps p.tables e below (s₁.setTop (mkF m 42 #[rv ar, iv (1 : Int32), iv vv, iv fr, iv (vv &&& (255 : Int32)), iv (vv &&& (255 : Int32))] [(.int (1 : Int32))])) _
        exact retN X0 hx (t := .boolean) Bd.returns (by simp) (hb hby d11_42) hr
      · show Q_rm_ok3_1 Z _ _ _ _ _ _ h0 n0 _ s₁.heap _
        rw [e0]
        exact ⟨(by first | rfl | (simp [*]; done) | (simp_all; done)), N0, rfl⟩
    · skip
      obtain ⟨fs, hr, hrun, hended, hW, hsame⟩ := X0.leave (v := some (.int (0 : Int32))) (fun h => by rw [Bd.returns] at h; cases h)
      refine ⟨_, _, pre7 _ ?_, hrun, hended, _, _, rfl, ?_, ⟨_, rfl⟩, hW, hsame.mono (by decide) (by decide)⟩
      · show Steps p.tables e below (s₁.setTop (mkF m 34 #[rv ar, iv (1 : Int32), iv vv, iv fr, iv (vv &&& (255 : Int32)), iv (vv &&& (255 : Int32))] [(.int (vv &&& (255 : Int32))), (.int (x1 &&& (255 : Int32)))])) _
        refine XS.icmpYes X0.here hx rfl (pc0 := 34) (pc' := 41) rfl (hb hby d11_34) rfl (feq hc34_6).2 (by decide) (by decide) ?_
        refine XS.iconst X0.here hx rfl (hb hby d11_41) ?_
        show Steps p.tables e below (s₁.setTop (mkF m 42 #[rv ar, iv (1 : Int32), iv vv, iv fr, iv (vv &&& (255 : Int32)), iv (vv &&& (255 : Int32))] [(.int (0 : Int32))])) _
        exact retN X0 hx (t := .boolean) Bd.returns (by simp) (hb hby d11_42) hr
      · show Q_rm_ok3_1 Z _ _ _ _ _ _ h0 n0 _ s₁.heap _
        rw [e0]
        exact ⟨(by first | rfl | (simp [*]; done) | (simp_all; done)), N0, rfl⟩
  · skip
    obtain ⟨kk8, cl8, Ar8, qq8, Sz8, Nn8, Hs8, Gf8⟩ := id pf_A_ar
    have hin9 : ¬ ((1 : Int32) < 0 ∨ cl8.slots.size ≤ ((1 : Int32)).toNatClampNeg) := inb_of Sz8 ⟨by decide, by decide⟩
    have hat10 : cl8.slots[((1 : Int32)).toNatClampNeg]? = some (.int x1) := Has.at Hs8 hin9 rfl
    have pre12 : ∀ t, Steps p.tables e below (s₁.setTop (mkF m 34 #[rv ar, iv (1 : Int32), iv vv, iv fr, iv (vv &&& (255 : Int32)), iv ((255 : Int32) - (vv &&& (255 : Int32)))] [(.int ((255 : Int32) - (vv &&& (255 : Int32)))), (.int (x1 &&& (255 : Int32)))])) t → Steps p.tables e below (s₁.setTop (entryFrame m #[(.ref ar), (.int (1 : Int32)), (.int vv), (.int fr)] 6)) t := by
      intro t_ k_
      refine pre2 _ ?_
      show Steps p.tables e below (s₁.setTop (mkF m 9 #[rv ar, iv (1 : Int32), iv vv, iv fr, iv (vv &&& (255 : Int32)), .unset] [(.int fr), (.int (1 : Int32))])) _
      refine XS.icmpYes X0.here hx rfl (pc0 := 9) (pc' := 17) rfl (hb hby d11_9) rfl (flt hc9_1).2.1 (by decide) (by decide) ?_
      refine XS.sipush X0.here hx rfl (hb hby d11_17) ?_
      refine XS.iload X0.here hx rfl (hb hby d11_20) rfl ?_
      show Steps p.tables e below (s₁.setTop (mkF m 22 #[rv ar, iv (1 : Int32), iv vv, iv fr, iv (vv &&& (255 : Int32)), .unset] [(.int (vv &&& (255 : Int32))), (.int (255 : Int32))])) _
      refine XS.isub X0.here hx rfl (hb hby d11_22) rfl ?_
      refine XS.istore X0.here hx rfl (hb hby d11_23) rfl (l' := #[rv ar, iv (1 : Int32), iv vv, iv fr, iv (vv &&& (255 : Int32)), iv ((255 : Int32) - (vv &&& (255 : Int32)))]) rfl ?_
      refine XS.aloadN X0.here hx rfl (hb hby d11_25) rfl rfl ?_
      refine XS.iloadN X0.here hx rfl (hb hby d11_26) rfl ?_
      show Steps p.tables e below (s₁.setTop (mkF m 27 #[rv ar, iv (1 : Int32), iv vv, iv fr, iv (vv &&& (255 : Int32)), iv ((255 : Int32) - (vv &&& (255 : Int32)))] [(.int (1 : Int32)), (.ref ar)])) _
      refine X0.baloadBytes hx (j := (1 : Int32)) (v := (.int x1)) (by rw [e0]; exact Ar8.1) (State.isArrayOf_alike hZ.alike Ar8.2.1) Ar8.2.2 hin9 hat10 (g := (mkF m 27 #[rv ar, iv (1 : Int32), iv vv, iv fr, iv (vv &&& (255 : Int32)), iv ((255 : Int32) - (vv &&& (255 : Int32)))] [(.int (1 : Int32)), (.ref ar)])) rfl rfl (hb hby d11_27) _ ?_
      show Steps p.tables e below (s₁.setTop (mkF m 28 #[rv ar, iv (1 : Int32), iv vv, iv fr, iv (vv &&& (255 : Int32)), iv ((255 : Int32) - (vv &&& (255 : Int32)))] [(.int x1)])) _
      refine XS.sipush X0.here hx rfl (hb hby d11_28) ?_
      refine XS.iand X0.here hx rfl (hb hby d11_31) rfl ?_
      refine XS.iload X0.here hx rfl (hb hby d11_32) rfl ?_
      exact k_
    by_cases hc34_11 : (x1 &&& (255 : Int32)) = ((255 : Int32) - (vv &&& (255 : Int32)))
    · skip
      obtain ⟨fs, hr, hrun, hended, hW, hsame⟩ := X0.leave (v := some (.int (1 : Int32))) (fun h => by rw [Bd.returns] at h; cases h)
      refine ⟨_, _, pre12 _ ?_, hrun, hended, _, _, rfl, ?_, ⟨_, rfl⟩, hW, hsame.mono (by decide) (by decide)⟩
      · show Steps p.tables e below (s₁.setTop (mkF m 34 #[rv ar, iv (1 : Int32), iv vv, iv fr, iv (vv &&& (255 : Int32)), iv ((255 : Int32) - (vv &&& (255 : Int32)))] [(.int ((255 : Int32) - (vv &&& (255 : Int32)))), (.int (x1 &&& (255 : Int32)))])) _
        refine XS.icmpNo X0.here hx rfl (hb hby d11_34) rfl (teq hc34_11).2 ?_
        show Steps p.tables e below (s₁.setTop (mkF m 37 #[rv ar, iv (1 : Int32), iv vv, iv fr, iv (vv &&& (255 : Int32)), iv ((255 : Int32) - (vv &&& (255 : Int32)))] [])) _
        refine XS.iconst X0.here hx rfl (hb hby d11_37) ?_
        refine XS.goto X0.here hx rfl (pc0 := 38) (pc' := 42) rfl (hb hby d11_38) (by decide) (by decide) ?_
        show Steps p.tables e below (s₁.setTop (mkF m 42 #[rv ar, iv (1 : Int32), iv vv, iv fr, iv (vv &&& (255 : Int32)), iv ((255 : Int32) - (vv &&& (255 : Int32)))] [(.int (1 : Int32))])) _
        exact retN X0 hx (t := .boolean) Bd.returns (by simp) (hb hby d11_42) hr
      · show Q_rm_ok3_1 Z _ _ _ _ _ _ h0 n0 _ s₁.heap _
        rw [e0]
        exact ⟨(by first | rfl | (simp [*]; done) | (simp_all; done)), N0, rfl⟩
    · skip
      obtain ⟨fs, hr, hrun, hended, hW, hsame⟩ := X0.leave (v := some (.int (0 : Int32))) (fun h => by rw [Bd.returns] at h; cases h)
      refine ⟨_, _, pre12 _ ?_, hrun, hended, _, _, rfl, ?_, ⟨_, rfl⟩, hW, hsame.mono (by decide) (by decide)⟩
      · show Steps p.tables e below (s₁.setTop (mkF m 34 #[rv ar, iv (1 : Int32), iv vv, iv fr, iv (vv &&& (255 : Int32)), iv ((255 : Int32) - (vv &&& (255 : Int32)))] [(.int ((255 : Int32) - (vv &&& (255 : Int32)))), (.int (x1 &&& (255 : Int32)))])) _
        refine XS.icmpYes X0.here hx rfl (pc0 := 34) (pc' := 41) rfl (hb hby d11_34) rfl (feq hc34_11).2 (by decide) (by decide) ?_
        refine XS.iconst X0.here hx rfl (hb hby d11_41) ?_
        show Steps p.tables e below (s₁.setTop (mkF m 42 #[rv ar, iv (1 : Int32), iv vv, iv fr, iv (vv &&& (255 : Int32)), iv ((255 : Int32) - (vv &&& (255 : Int32)))] [(.int (0 : Int32))])) _
        exact retN X0 hx (t := .boolean) Bd.returns (by simp) (hb hby d11_42) hr
      · show Q_rm_ok3_1 Z _ _ _ _ _ _ h0 n0 _ s₁.heap _
        rw [e0]
        exact ⟨(by first | rfl | (simp [*]; done) | (simp_all; done)), N0, rfl⟩
theorem ef_rm_ok3_2 (m : MethodId) (x0 : Addr) (x1 : Int32) (x2 : Int32) (x3 : Int32) : entryFrame m #[(.ref x0), (.int x1), (.int x2), (.int x3)] 6 = mkF m 0 #[rv x0, iv x1, iv x2, iv x3, .unset, .unset] [] := by first | (simp [entryFrame, mkF, argsToLocals, Value.category]; done) | rfl
def Q_rm_ok3_2 (Z : State) (ar : Addr) (vv : Int32) (fr : Int32) (x0 : Int32) (x1 : Int32) (x2 : Int32) (h0 : Heap) (n0 : Nat) (v : Option Value) (h : Heap) (L : List Loc) : Prop := v = some (.int (if (x2 &&& (255 : Int32)) = (if (2 : Int32) < fr then (vv &&& (255 : Int32)) else ((255 : Int32) - (vv &&& (255 : Int32)))) then (1 : Int32) else (0 : Int32))) ∧ Fr n0 L ∧ h = h0
set_option maxRecDepth 65536 in
set_option maxHeartbeats 40000000 in
theorem rm_ok3_2 (l : Launch) (Z : State) (a0 : Array Value) (hw : ∀ d ∈ tables_1, d.before a0 Z = true) (ws : List Jvm.Cond) (ar : Addr) (vv : Int32) (fr : Int32) (x0 : Int32) (x1 : Int32) (x2 : Int32) (h0 : Heap) (n0 : Nat) (Z0 : n0 ≤ h0.size) (pf_A_ar : Av Z h0 ar .byte (3 : Int32) [(.int x0), (.int x1), (.int x2)] (.int (0 : Int32))) :
    MetFree l (⟨"com/example/dido/dido/keys/KeyWriterInvertPinLaw", "ok", "([BIII)Z"⟩ : MethodName) (head1 (Jvm.Cond.code (⟨"com/example/dido/dido/keys/KeyWriterInvertPinLaw", "ok", "([BIII)Z"⟩ : MethodName) method_2_code 6 (some .boolean) :: ws) ({ frames := 0, cells := 0, slots := 0, locals := 0 } : Room)) (fun a U => a = #[(.ref ar), (.int (2 : Int32)), (.int vv), (.int fr)] ∧ Z.Warmed39 U.vm ∧ U.heap = h0) (fun _ _ _ _ _ => True) (fun _ U o U' => ∃ v L, o = .returned v ∧ Q_rm_ok3_2 Z ar vv fr x0 x1 x2 h0 n0 v U'.heap L ∧ FrameEnd U o U' L ({ frames := 0, cells := 0, slots := 0, locals := 0 } : Room).cells ({ frames := 0, cells := 0, slots := 0, locals := 0 } : Room).slots) := by
  refine MetFree.of_bodySF (plainFor_of_name pn_com_example_dido_dido_keys_KeyWriterInvertPinLaw) hisR ?_
  intro p e s m args below meth c s₁ Bd hml0 hP hK
  obtain ⟨rfl, hZ, hh⟩ := hP
  have hx := Bd.exec
  have hby := Bd.bytes
  have hml : c.maxLocals = 6 := hml0
  have hown : s.vm.findClass "com/example/dido/dido/keys/KeyWriterInvertPinLaw" = some m.cls := findClass_of_methodNamed Bd.named
  have hnm := (name_of_methodNamed Bd.named Bd.method).1
  have X0 : Stand p l e ({ frames := 0, cells := 0, slots := 0, locals := 0 } : Room) s m #[(.ref ar), (.int (2 : Int32)), (.int vv), (.int fr)] below meth c s₁ [] 0 0 := Stand.of_body Bd
  have e0 : s₁.heap = h0 := by rw [← hh, Bd.state]; rfl
  have N0 := Fr.nil n0
  have pre0 : ∀ t, Steps p.tables e below (s₁.setTop (mkF m 0 #[rv ar, iv (2 : Int32), iv vv, iv fr, .unset, .unset] [])) t → Steps p.tables e below (s₁.setTop (entryFrame m #[(.ref ar), (.int (2 : Int32)), (.int vv), (.int fr)] 6)) t := fun t k => castTop (ef_rm_ok3_2 m ar (2 : Int32) vv fr) k
  have pre2 : ∀ t, Steps p.tables e below (s₁.setTop (mkF m 9 #[rv ar, iv (2 : Int32), iv vv, iv fr, iv (vv &&& (255 : Int32)), .unset] [(.int fr), (.int (2 : Int32))])) t → Steps p.tables e below (s₁.setTop (entryFrame m #[(.ref ar), (.int (2 : Int32)), (.int vv), (.int fr)] 6)) t := by
    intro t_ k_
    refine pre0 _ ?_
    show Steps p.tables e below (s₁.setTop (mkF m 0 #[rv ar, iv (2 : Int32), iv vv, iv fr, .unset, .unset] [])) _
    refine XS.iloadN X0.here hx rfl (hb hby d11_0) rfl ?_
    refine XS.sipush X0.here hx rfl (hb hby d11_1) ?_
    refine XS.iand X0.here hx rfl (hb hby d11_4) rfl ?_
    refine XS.istore X0.here hx rfl (hb hby d11_5) rfl (l' := #[rv ar, iv (2 : Int32), iv vv, iv fr, iv (vv &&& (255 : Int32)), .unset]) rfl ?_
    show Steps p.tables e below (s₁.setTop (mkF m 7 #[rv ar, iv (2 : Int32), iv vv, iv fr, iv (vv &&& (255 : Int32)), .unset] [])) _
    refine XS.iloadN X0.here hx rfl (hb hby d11_7) rfl ?_
    refine XS.iloadN X0.here hx rfl (hb hby d11_8) rfl ?_
    exact k_
  by_cases hc9_1 : (2 : Int32) < fr
  · skip
    obtain ⟨kk3, cl3, Ar3, qq3, Sz3, Nn3, Hs3, Gf3⟩ := id pf_A_ar
    have hin4 : ¬ ((2 : Int32) < 0 ∨ cl3.slots.size ≤ ((2 : Int32)).toNatClampNeg) := inb_of Sz3 ⟨by decide, by decide⟩
    have hat5 : cl3.slots[((2 : Int32)).toNatClampNeg]? = some (.int x2) := Has.at Hs3 hin4 rfl
    have pre7 : ∀ t, Steps p.tables e below (s₁.setTop (mkF m 34 #[rv ar, iv (2 : Int32), iv vv, iv fr, iv (vv &&& (255 : Int32)), iv (vv &&& (255 : Int32))] [(.int (vv &&& (255 : Int32))), (.int (x2 &&& (255 : Int32)))])) t → Steps p.tables e below (s₁.setTop (entryFrame m #[(.ref ar), (.int (2 : Int32)), (.int vv), (.int fr)] 6)) t := by
      intro t_ k_
      refine pre2 _ ?_
      show Steps p.tables e below (s₁.setTop (mkF m 9 #[rv ar, iv (2 : Int32), iv vv, iv fr, iv (vv &&& (255 : Int32)), .unset] [(.int fr), (.int (2 : Int32))])) _
      refine XS.icmpNo X0.here hx rfl (hb hby d11_9) rfl (tlt hc9_1).2.1 ?_
      refine XS.iload X0.here hx rfl (hb hby d11_12) rfl ?_
      show Steps p.tables e below (s₁.setTop (mkF m 14 #[rv ar, iv (2 : Int32), iv vv, iv fr, iv (vv &&& (255 : Int32)), .unset] [(.int (vv &&& (255 : Int32)))])) _
      refine XS.goto X0.here hx rfl (pc0 := 14) (pc' := 23) rfl (hb hby d11_14) (by decide) (by decide) ?_
      refine XS.istore X0.here hx rfl (hb hby d11_23) rfl (l' := #[rv ar, iv (2 : Int32), iv vv, iv fr, iv (vv &&& (255 : Int32)), iv (vv &&& (255 : Int32))]) rfl ?_
      refine XS.aloadN X0.here hx rfl (hb hby d11_25) rfl rfl ?_
      refine XS.iloadN X0.here hx rfl (hb hby d11_26) rfl ?_
      show Steps p.tables e below (s₁.setTop (mkF m 27 #[rv ar, iv (2 : Int32), iv vv, iv fr, iv (vv &&& (255 : Int32)), iv (vv &&& (255 : Int32))] [(.int (2 : Int32)), (.ref ar)])) _
      refine X0.baloadBytes hx (j := (2 : Int32)) (v := (.int x2)) (by rw [e0]; exact Ar3.1) (State.isArrayOf_alike hZ.alike Ar3.2.1) Ar3.2.2 hin4 hat5 (g := (mkF m 27 #[rv ar, iv (2 : Int32), iv vv, iv fr, iv (vv &&& (255 : Int32)), iv (vv &&& (255 : Int32))] [(.int (2 : Int32)), (.ref ar)])) rfl rfl (hb hby d11_27) _ ?_
      show Steps p.tables e below (s₁.setTop (mkF m 28 #[rv ar, iv (2 : Int32), iv vv, iv fr, iv (vv &&& (255 : Int32)), iv (vv &&& (255 : Int32))] [(.int x2)])) _
      refine XS.sipush X0.here hx rfl (hb hby d11_28) ?_
      refine XS.iand X0.here hx rfl (hb hby d11_31) rfl ?_
      refine XS.iload X0.here hx rfl (hb hby d11_32) rfl ?_
      exact k_
    by_cases hc34_6 : (x2 &&& (255 : Int32)) = (vv &&& (255 : Int32))
    · skip
      obtain ⟨fs, hr, hrun, hended, hW, hsame⟩ := X0.leave (v := some (.int (1 : Int32))) (fun h => by rw [Bd.returns] at h; cases h)
      refine ⟨_, _, pre7 _ ?_, hrun, hended, _, _, rfl, ?_, ⟨_, rfl⟩, hW, hsame.mono (by decide) (by decide)⟩
      · show Steps p.tables e below (s₁.setTop (mkF m 34 #[rv ar, iv (2 : Int32), iv vv, iv fr, iv (vv &&& (255 : Int32)), iv (vv &&& (255 : Int32))] [(.int (vv &&& (255 : Int32))), (.int (x2 &&& (255 : Int32)))])) _
        refine XS.icmpNo X0.here hx rfl (hb hby d11_34) rfl (teq hc34_6).2 ?_
        show Steps p.tables e below (s₁.setTop (mkF m 37 #[rv ar, iv (2 : Int32), iv vv, iv fr, iv (vv &&& (255 : Int32)), iv (vv &&& (255 : Int32))] [])) _
        refine XS.iconst X0.here hx rfl (hb hby d11_37) ?_
        refine XS.goto X0.here hx rfl (pc0 := 38) (pc' := 42) rfl (hb hby d11_38) (by decide) (by decide) ?_
        show Steps p.tables e below (s₁.setTop (mkF m 42 #[rv ar, iv (2 : Int32), iv vv, iv fr, iv (vv &&& (255 : Int32)), iv (vv &&& (255 : Int32))] [(.int (1 : Int32))])) _
        exact retN X0 hx (t := .boolean) Bd.returns (by simp) (hb hby d11_42) hr
      · show Q_rm_ok3_2 Z _ _ _ _ _ _ h0 n0 _ s₁.heap _
        rw [e0]
        exact ⟨(by first | rfl | (simp [*]; done) | (simp_all; done)), N0, rfl⟩
    · skip
      obtain ⟨fs, hr, hrun, hended, hW, hsame⟩ := X0.leave (v := some (.int (0 : Int32))) (fun h => by rw [Bd.returns] at h; cases h)
      refine ⟨_, _, pre7 _ ?_, hrun, hended, _, _, rfl, ?_, ⟨_, rfl⟩, hW, hsame.mono (by decide) (by decide)⟩
      · show Steps p.tables e below (s₁.setTop (mkF m 34 #[rv ar, iv (2 : Int32), iv vv, iv fr, iv (vv &&& (255 : Int32)), iv (vv &&& (255 : Int32))] [(.int (vv &&& (255 : Int32))), (.int (x2 &&& (255 : Int32)))])) _
        refine XS.icmpYes X0.here hx rfl (pc0 := 34) (pc' := 41) rfl (hb hby d11_34) rfl (feq hc34_6).2 (by decide) (by decide) ?_
        refine XS.iconst X0.here hx rfl (hb hby d11_41) ?_
        show Steps p.tables e below (s₁.setTop (mkF m 42 #[rv ar, iv (2 : Int32), iv vv, iv fr, iv (vv &&& (255 : Int32)), iv (vv &&& (255 : Int32))] [(.int (0 : Int32))])) _
        exact retN X0 hx (t := .boolean) Bd.returns (by simp) (hb hby d11_42) hr
      · show Q_rm_ok3_2 Z _ _ _ _ _ _ h0 n0 _ s₁.heap _
        rw [e0]
        exact ⟨(by first | rfl | (simp [*]; done) | (simp_all; done)), N0, rfl⟩
  · skip
    obtain ⟨kk8, cl8, Ar8, qq8, Sz8, Nn8, Hs8, Gf8⟩ := id pf_A_ar
    have hin9 : ¬ ((2 : Int32) < 0 ∨ cl8.slots.size ≤ ((2 : Int32)).toNatClampNeg) := inb_of Sz8 ⟨by decide, by decide⟩
    have hat10 : cl8.slots[((2 : Int32)).toNatClampNeg]? = some (.int x2) := Has.at Hs8 hin9 rfl
    have pre12 : ∀ t, Steps p.tables e below (s₁.setTop (mkF m 34 #[rv ar, iv (2 : Int32), iv vv, iv fr, iv (vv &&& (255 : Int32)), iv ((255 : Int32) - (vv &&& (255 : Int32)))] [(.int ((255 : Int32) - (vv &&& (255 : Int32)))), (.int (x2 &&& (255 : Int32)))])) t → Steps p.tables e below (s₁.setTop (entryFrame m #[(.ref ar), (.int (2 : Int32)), (.int vv), (.int fr)] 6)) t := by
      intro t_ k_
      refine pre2 _ ?_
      show Steps p.tables e below (s₁.setTop (mkF m 9 #[rv ar, iv (2 : Int32), iv vv, iv fr, iv (vv &&& (255 : Int32)), .unset] [(.int fr), (.int (2 : Int32))])) _
      refine XS.icmpYes X0.here hx rfl (pc0 := 9) (pc' := 17) rfl (hb hby d11_9) rfl (flt hc9_1).2.1 (by decide) (by decide) ?_
      refine XS.sipush X0.here hx rfl (hb hby d11_17) ?_
      refine XS.iload X0.here hx rfl (hb hby d11_20) rfl ?_
      show Steps p.tables e below (s₁.setTop (mkF m 22 #[rv ar, iv (2 : Int32), iv vv, iv fr, iv (vv &&& (255 : Int32)), .unset] [(.int (vv &&& (255 : Int32))), (.int (255 : Int32))])) _
      refine XS.isub X0.here hx rfl (hb hby d11_22) rfl ?_
      refine XS.istore X0.here hx rfl (hb hby d11_23) rfl (l' := #[rv ar, iv (2 : Int32), iv vv, iv fr, iv (vv &&& (255 : Int32)), iv ((255 : Int32) - (vv &&& (255 : Int32)))]) rfl ?_
      refine XS.aloadN X0.here hx rfl (hb hby d11_25) rfl rfl ?_
      refine XS.iloadN X0.here hx rfl (hb hby d11_26) rfl ?_
      show Steps p.tables e below (s₁.setTop (mkF m 27 #[rv ar, iv (2 : Int32), iv vv, iv fr, iv (vv &&& (255 : Int32)), iv ((255 : Int32) - (vv &&& (255 : Int32)))] [(.int (2 : Int32)), (.ref ar)])) _
      refine X0.baloadBytes hx (j := (2 : Int32)) (v := (.int x2)) (by rw [e0]; exact Ar8.1) (State.isArrayOf_alike hZ.alike Ar8.2.1) Ar8.2.2 hin9 hat10 (g := (mkF m 27 #[rv ar, iv (2 : Int32), iv vv, iv fr, iv (vv &&& (255 : Int32)), iv ((255 : Int32) - (vv &&& (255 : Int32)))] [(.int (2 : Int32)), (.ref ar)])) rfl rfl (hb hby d11_27) _ ?_
      show Steps p.tables e below (s₁.setTop (mkF m 28 #[rv ar, iv (2 : Int32), iv vv, iv fr, iv (vv &&& (255 : Int32)), iv ((255 : Int32) - (vv &&& (255 : Int32)))] [(.int x2)])) _
      refine XS.sipush X0.here hx rfl (hb hby d11_28) ?_
      refine XS.iand X0.here hx rfl (hb hby d11_31) rfl ?_
      refine XS.iload X0.here hx rfl (hb hby d11_32) rfl ?_
      exact k_
    by_cases hc34_11 : (x2 &&& (255 : Int32)) = ((255 : Int32) - (vv &&& (255 : Int32)))
    · skip
      obtain ⟨fs, hr, hrun, hended, hW, hsame⟩ := X0.leave (v := some (.int (1 : Int32))) (fun h => by rw [Bd.returns] at h; cases h)
      refine ⟨_, _, pre12 _ ?_, hrun, hended, _, _, rfl, ?_, ⟨_, rfl⟩, hW, hsame.mono (by decide) (by decide)⟩
      · show Steps p.tables e below (s₁.setTop (mkF m 34 #[rv ar, iv (2 : Int32), iv vv, iv fr, iv (vv &&& (255 : Int32)), iv ((255 : Int32) - (vv &&& (255 : Int32)))] [(.int ((255 : Int32) - (vv &&& (255 : Int32)))), (.int (x2 &&& (255 : Int32)))])) _
        refine XS.icmpNo X0.here hx rfl (hb hby d11_34) rfl (teq hc34_11).2 ?_
        show Steps p.tables e below (s₁.setTop (mkF m 37 #[rv ar, iv (2 : Int32), iv vv, iv fr, iv (vv &&& (255 : Int32)), iv ((255 : Int32) - (vv &&& (255 : Int32)))] [])) _
        refine XS.iconst X0.here hx rfl (hb hby d11_37) ?_
        refine XS.goto X0.here hx rfl (pc0 := 38) (pc' := 42) rfl (hb hby d11_38) (by decide) (by decide) ?_
        show Steps p.tables e below (s₁.setTop (mkF m 42 #[rv ar, iv (2 : Int32), iv vv, iv fr, iv (vv &&& (255 : Int32)), iv ((255 : Int32) - (vv &&& (255 : Int32)))] [(.int (1 : Int32))])) _
        exact retN X0 hx (t := .boolean) Bd.returns (by simp) (hb hby d11_42) hr
      · show Q_rm_ok3_2 Z _ _ _ _ _ _ h0 n0 _ s₁.heap _
        rw [e0]
        exact ⟨(by first | rfl | (simp [*]; done) | (simp_all; done)), N0, rfl⟩
    · skip
      obtain ⟨fs, hr, hrun, hended, hW, hsame⟩ := X0.leave (v := some (.int (0 : Int32))) (fun h => by rw [Bd.returns] at h; cases h)
      refine ⟨_, _, pre12 _ ?_, hrun, hended, _, _, rfl, ?_, ⟨_, rfl⟩, hW, hsame.mono (by decide) (by decide)⟩
      · show Steps p.tables e below (s₁.setTop (mkF m 34 #[rv ar, iv (2 : Int32), iv vv, iv fr, iv (vv &&& (255 : Int32)), iv ((255 : Int32) - (vv &&& (255 : Int32)))] [(.int ((255 : Int32) - (vv &&& (255 : Int32)))), (.int (x2 &&& (255 : Int32)))])) _
        refine XS.icmpYes X0.here hx rfl (pc0 := 34) (pc' := 41) rfl (hb hby d11_34) rfl (feq hc34_11).2 (by decide) (by decide) ?_
        refine XS.iconst X0.here hx rfl (hb hby d11_41) ?_
        show Steps p.tables e below (s₁.setTop (mkF m 42 #[rv ar, iv (2 : Int32), iv vv, iv fr, iv (vv &&& (255 : Int32)), iv ((255 : Int32) - (vv &&& (255 : Int32)))] [(.int (0 : Int32))])) _
        exact retN X0 hx (t := .boolean) Bd.returns (by simp) (hb hby d11_42) hr
      · show Q_rm_ok3_2 Z _ _ _ _ _ _ h0 n0 _ s₁.heap _
        rw [e0]
        exact ⟨(by first | rfl | (simp [*]; done) | (simp_all; done)), N0, rfl⟩
theorem ef_rm_ok4_0 (m : MethodId) (x0 : Addr) (x1 : Int32) (x2 : Int32) (x3 : Int32) : entryFrame m #[(.ref x0), (.int x1), (.int x2), (.int x3)] 6 = mkF m 0 #[rv x0, iv x1, iv x2, iv x3, .unset, .unset] [] := by first | (simp [entryFrame, mkF, argsToLocals, Value.category]; done) | rfl
def Q_rm_ok4_0 (Z : State) (ar : Addr) (vv : Int32) (fr : Int32) (x0 : Int32) (x1 : Int32) (x2 : Int32) (x3 : Int32) (h0 : Heap) (n0 : Nat) (v : Option Value) (h : Heap) (L : List Loc) : Prop := v = some (.int (if (x0 &&& (255 : Int32)) = (if (0 : Int32) < fr then (vv &&& (255 : Int32)) else ((255 : Int32) - (vv &&& (255 : Int32)))) then (1 : Int32) else (0 : Int32))) ∧ Fr n0 L ∧ h = h0
set_option maxRecDepth 65536 in
set_option maxHeartbeats 40000000 in
theorem rm_ok4_0 (l : Launch) (Z : State) (a0 : Array Value) (hw : ∀ d ∈ tables_1, d.before a0 Z = true) (ws : List Jvm.Cond) (ar : Addr) (vv : Int32) (fr : Int32) (x0 : Int32) (x1 : Int32) (x2 : Int32) (x3 : Int32) (h0 : Heap) (n0 : Nat) (Z0 : n0 ≤ h0.size) (pf_A_ar : Av Z h0 ar .byte (4 : Int32) [(.int x0), (.int x1), (.int x2), (.int x3)] (.int (0 : Int32))) :
    MetFree l (⟨"com/example/dido/dido/keys/KeyWriterInvertPinLaw", "ok", "([BIII)Z"⟩ : MethodName) (head1 (Jvm.Cond.code (⟨"com/example/dido/dido/keys/KeyWriterInvertPinLaw", "ok", "([BIII)Z"⟩ : MethodName) method_2_code 6 (some .boolean) :: ws) ({ frames := 0, cells := 0, slots := 0, locals := 0 } : Room)) (fun a U => a = #[(.ref ar), (.int (0 : Int32)), (.int vv), (.int fr)] ∧ Z.Warmed39 U.vm ∧ U.heap = h0) (fun _ _ _ _ _ => True) (fun _ U o U' => ∃ v L, o = .returned v ∧ Q_rm_ok4_0 Z ar vv fr x0 x1 x2 x3 h0 n0 v U'.heap L ∧ FrameEnd U o U' L ({ frames := 0, cells := 0, slots := 0, locals := 0 } : Room).cells ({ frames := 0, cells := 0, slots := 0, locals := 0 } : Room).slots) := by
  refine MetFree.of_bodySF (plainFor_of_name pn_com_example_dido_dido_keys_KeyWriterInvertPinLaw) hisR ?_
  intro p e s m args below meth c s₁ Bd hml0 hP hK
  obtain ⟨rfl, hZ, hh⟩ := hP
  have hx := Bd.exec
  have hby := Bd.bytes
  have hml : c.maxLocals = 6 := hml0
  have hown : s.vm.findClass "com/example/dido/dido/keys/KeyWriterInvertPinLaw" = some m.cls := findClass_of_methodNamed Bd.named
  have hnm := (name_of_methodNamed Bd.named Bd.method).1
  have X0 : Stand p l e ({ frames := 0, cells := 0, slots := 0, locals := 0 } : Room) s m #[(.ref ar), (.int (0 : Int32)), (.int vv), (.int fr)] below meth c s₁ [] 0 0 := Stand.of_body Bd
  have e0 : s₁.heap = h0 := by rw [← hh, Bd.state]; rfl
  have N0 := Fr.nil n0
  have pre0 : ∀ t, Steps p.tables e below (s₁.setTop (mkF m 0 #[rv ar, iv (0 : Int32), iv vv, iv fr, .unset, .unset] [])) t → Steps p.tables e below (s₁.setTop (entryFrame m #[(.ref ar), (.int (0 : Int32)), (.int vv), (.int fr)] 6)) t := fun t k => castTop (ef_rm_ok4_0 m ar (0 : Int32) vv fr) k
  have pre2 : ∀ t, Steps p.tables e below (s₁.setTop (mkF m 9 #[rv ar, iv (0 : Int32), iv vv, iv fr, iv (vv &&& (255 : Int32)), .unset] [(.int fr), (.int (0 : Int32))])) t → Steps p.tables e below (s₁.setTop (entryFrame m #[(.ref ar), (.int (0 : Int32)), (.int vv), (.int fr)] 6)) t := by
    intro t_ k_
    refine pre0 _ ?_
    show Steps p.tables e below (s₁.setTop (mkF m 0 #[rv ar, iv (0 : Int32), iv vv, iv fr, .unset, .unset] [])) _
    refine XS.iloadN X0.here hx rfl (hb hby d11_0) rfl ?_
    refine XS.sipush X0.here hx rfl (hb hby d11_1) ?_
    refine XS.iand X0.here hx rfl (hb hby d11_4) rfl ?_
    refine XS.istore X0.here hx rfl (hb hby d11_5) rfl (l' := #[rv ar, iv (0 : Int32), iv vv, iv fr, iv (vv &&& (255 : Int32)), .unset]) rfl ?_
    show Steps p.tables e below (s₁.setTop (mkF m 7 #[rv ar, iv (0 : Int32), iv vv, iv fr, iv (vv &&& (255 : Int32)), .unset] [])) _
    refine XS.iloadN X0.here hx rfl (hb hby d11_7) rfl ?_
    refine XS.iloadN X0.here hx rfl (hb hby d11_8) rfl ?_
    exact k_
  by_cases hc9_1 : (0 : Int32) < fr
  · skip
    obtain ⟨kk3, cl3, Ar3, qq3, Sz3, Nn3, Hs3, Gf3⟩ := id pf_A_ar
    have hin4 : ¬ ((0 : Int32) < 0 ∨ cl3.slots.size ≤ ((0 : Int32)).toNatClampNeg) := inb_of Sz3 ⟨by decide, by decide⟩
    have hat5 : cl3.slots[((0 : Int32)).toNatClampNeg]? = some (.int x0) := Has.at Hs3 hin4 rfl
    have pre7 : ∀ t, Steps p.tables e below (s₁.setTop (mkF m 34 #[rv ar, iv (0 : Int32), iv vv, iv fr, iv (vv &&& (255 : Int32)), iv (vv &&& (255 : Int32))] [(.int (vv &&& (255 : Int32))), (.int (x0 &&& (255 : Int32)))])) t → Steps p.tables e below (s₁.setTop (entryFrame m #[(.ref ar), (.int (0 : Int32)), (.int vv), (.int fr)] 6)) t := by
      intro t_ k_
      refine pre2 _ ?_
      show Steps p.tables e below (s₁.setTop (mkF m 9 #[rv ar, iv (0 : Int32), iv vv, iv fr, iv (vv &&& (255 : Int32)), .unset] [(.int fr), (.int (0 : Int32))])) _
      refine XS.icmpNo X0.here hx rfl (hb hby d11_9) rfl (tlt hc9_1).2.1 ?_
      refine XS.iload X0.here hx rfl (hb hby d11_12) rfl ?_
      show Steps p.tables e below (s₁.setTop (mkF m 14 #[rv ar, iv (0 : Int32), iv vv, iv fr, iv (vv &&& (255 : Int32)), .unset] [(.int (vv &&& (255 : Int32)))])) _
      refine XS.goto X0.here hx rfl (pc0 := 14) (pc' := 23) rfl (hb hby d11_14) (by decide) (by decide) ?_
      refine XS.istore X0.here hx rfl (hb hby d11_23) rfl (l' := #[rv ar, iv (0 : Int32), iv vv, iv fr, iv (vv &&& (255 : Int32)), iv (vv &&& (255 : Int32))]) rfl ?_
      refine XS.aloadN X0.here hx rfl (hb hby d11_25) rfl rfl ?_
      refine XS.iloadN X0.here hx rfl (hb hby d11_26) rfl ?_
      show Steps p.tables e below (s₁.setTop (mkF m 27 #[rv ar, iv (0 : Int32), iv vv, iv fr, iv (vv &&& (255 : Int32)), iv (vv &&& (255 : Int32))] [(.int (0 : Int32)), (.ref ar)])) _
      refine X0.baloadBytes hx (j := (0 : Int32)) (v := (.int x0)) (by rw [e0]; exact Ar3.1) (State.isArrayOf_alike hZ.alike Ar3.2.1) Ar3.2.2 hin4 hat5 (g := (mkF m 27 #[rv ar, iv (0 : Int32), iv vv, iv fr, iv (vv &&& (255 : Int32)), iv (vv &&& (255 : Int32))] [(.int (0 : Int32)), (.ref ar)])) rfl rfl (hb hby d11_27) _ ?_
      show Steps p.tables e below (s₁.setTop (mkF m 28 #[rv ar, iv (0 : Int32), iv vv, iv fr, iv (vv &&& (255 : Int32)), iv (vv &&& (255 : Int32))] [(.int x0)])) _
      refine XS.sipush X0.here hx rfl (hb hby d11_28) ?_
      refine XS.iand X0.here hx rfl (hb hby d11_31) rfl ?_
      refine XS.iload X0.here hx rfl (hb hby d11_32) rfl ?_
      exact k_
    by_cases hc34_6 : (x0 &&& (255 : Int32)) = (vv &&& (255 : Int32))
    · skip
      obtain ⟨fs, hr, hrun, hended, hW, hsame⟩ := X0.leave (v := some (.int (1 : Int32))) (fun h => by rw [Bd.returns] at h; cases h)
      refine ⟨_, _, pre7 _ ?_, hrun, hended, _, _, rfl, ?_, ⟨_, rfl⟩, hW, hsame.mono (by decide) (by decide)⟩
      · show Steps p.tables e below (s₁.setTop (mkF m 34 #[rv ar, iv (0 : Int32), iv vv, iv fr, iv (vv &&& (255 : Int32)), iv (vv &&& (255 : Int32))] [(.int (vv &&& (255 : Int32))), (.int (x0 &&& (255 : Int32)))])) _
        refine XS.icmpNo X0.here hx rfl (hb hby d11_34) rfl (teq hc34_6).2 ?_
        show Steps p.tables e below (s₁.setTop (mkF m 37 #[rv ar, iv (0 : Int32), iv vv, iv fr, iv (vv &&& (255 : Int32)), iv (vv &&& (255 : Int32))] [])) _
        refine XS.iconst X0.here hx rfl (hb hby d11_37) ?_
        refine XS.goto X0.here hx rfl (pc0 := 38) (pc' := 42) rfl (hb hby d11_38) (by decide) (by decide) ?_
        show Steps p.tables e below (s₁.setTop (mkF m 42 #[rv ar, iv (0 : Int32), iv vv, iv fr, iv (vv &&& (255 : Int32)), iv (vv &&& (255 : Int32))] [(.int (1 : Int32))])) _
        exact retN X0 hx (t := .boolean) Bd.returns (by simp) (hb hby d11_42) hr
      · show Q_rm_ok4_0 Z _ _ _ _ _ _ _ h0 n0 _ s₁.heap _
        rw [e0]
        exact ⟨(by first | rfl | (simp [*]; done) | (simp_all; done)), N0, rfl⟩
    · skip
      obtain ⟨fs, hr, hrun, hended, hW, hsame⟩ := X0.leave (v := some (.int (0 : Int32))) (fun h => by rw [Bd.returns] at h; cases h)
      refine ⟨_, _, pre7 _ ?_, hrun, hended, _, _, rfl, ?_, ⟨_, rfl⟩, hW, hsame.mono (by decide) (by decide)⟩
      · show Steps p.tables e below (s₁.setTop (mkF m 34 #[rv ar, iv (0 : Int32), iv vv, iv fr, iv (vv &&& (255 : Int32)), iv (vv &&& (255 : Int32))] [(.int (vv &&& (255 : Int32))), (.int (x0 &&& (255 : Int32)))])) _
        refine XS.icmpYes X0.here hx rfl (pc0 := 34) (pc' := 41) rfl (hb hby d11_34) rfl (feq hc34_6).2 (by decide) (by decide) ?_
        refine XS.iconst X0.here hx rfl (hb hby d11_41) ?_
        show Steps p.tables e below (s₁.setTop (mkF m 42 #[rv ar, iv (0 : Int32), iv vv, iv fr, iv (vv &&& (255 : Int32)), iv (vv &&& (255 : Int32))] [(.int (0 : Int32))])) _
        exact retN X0 hx (t := .boolean) Bd.returns (by simp) (hb hby d11_42) hr
      · show Q_rm_ok4_0 Z _ _ _ _ _ _ _ h0 n0 _ s₁.heap _
        rw [e0]
        exact ⟨(by first | rfl | (simp [*]; done) | (simp_all; done)), N0, rfl⟩
  · skip
    obtain ⟨kk8, cl8, Ar8, qq8, Sz8, Nn8, Hs8, Gf8⟩ := id pf_A_ar
    have hin9 : ¬ ((0 : Int32) < 0 ∨ cl8.slots.size ≤ ((0 : Int32)).toNatClampNeg) := inb_of Sz8 ⟨by decide, by decide⟩
    have hat10 : cl8.slots[((0 : Int32)).toNatClampNeg]? = some (.int x0) := Has.at Hs8 hin9 rfl
    have pre12 : ∀ t, Steps p.tables e below (s₁.setTop (mkF m 34 #[rv ar, iv (0 : Int32), iv vv, iv fr, iv (vv &&& (255 : Int32)), iv ((255 : Int32) - (vv &&& (255 : Int32)))] [(.int ((255 : Int32) - (vv &&& (255 : Int32)))), (.int (x0 &&& (255 : Int32)))])) t → Steps p.tables e below (s₁.setTop (entryFrame m #[(.ref ar), (.int (0 : Int32)), (.int vv), (.int fr)] 6)) t := by
      intro t_ k_
      refine pre2 _ ?_
      show Steps p.tables e below (s₁.setTop (mkF m 9 #[rv ar, iv (0 : Int32), iv vv, iv fr, iv (vv &&& (255 : Int32)), .unset] [(.int fr), (.int (0 : Int32))])) _
      refine XS.icmpYes X0.here hx rfl (pc0 := 9) (pc' := 17) rfl (hb hby d11_9) rfl (flt hc9_1).2.1 (by decide) (by decide) ?_
      refine XS.sipush X0.here hx rfl (hb hby d11_17) ?_
      refine XS.iload X0.here hx rfl (hb hby d11_20) rfl ?_
      show Steps p.tables e below (s₁.setTop (mkF m 22 #[rv ar, iv (0 : Int32), iv vv, iv fr, iv (vv &&& (255 : Int32)), .unset] [(.int (vv &&& (255 : Int32))), (.int (255 : Int32))])) _
      refine XS.isub X0.here hx rfl (hb hby d11_22) rfl ?_
      refine XS.istore X0.here hx rfl (hb hby d11_23) rfl (l' := #[rv ar, iv (0 : Int32), iv vv, iv fr, iv (vv &&& (255 : Int32)), iv ((255 : Int32) - (vv &&& (255 : Int32)))]) rfl ?_
      refine XS.aloadN X0.here hx rfl (hb hby d11_25) rfl rfl ?_
      refine XS.iloadN X0.here hx rfl (hb hby d11_26) rfl ?_
      show Steps p.tables e below (s₁.setTop (mkF m 27 #[rv ar, iv (0 : Int32), iv vv, iv fr, iv (vv &&& (255 : Int32)), iv ((255 : Int32) - (vv &&& (255 : Int32)))] [(.int (0 : Int32)), (.ref ar)])) _
      refine X0.baloadBytes hx (j := (0 : Int32)) (v := (.int x0)) (by rw [e0]; exact Ar8.1) (State.isArrayOf_alike hZ.alike Ar8.2.1) Ar8.2.2 hin9 hat10 (g := (mkF m 27 #[rv ar, iv (0 : Int32), iv vv, iv fr, iv (vv &&& (255 : Int32)), iv ((255 : Int32) - (vv &&& (255 : Int32)))] [(.int (0 : Int32)), (.ref ar)])) rfl rfl (hb hby d11_27) _ ?_
      show Steps p.tables e below (s₁.setTop (mkF m 28 #[rv ar, iv (0 : Int32), iv vv, iv fr, iv (vv &&& (255 : Int32)), iv ((255 : Int32) - (vv &&& (255 : Int32)))] [(.int x0)])) _
      refine XS.sipush X0.here hx rfl (hb hby d11_28) ?_
      refine XS.iand X0.here hx rfl (hb hby d11_31) rfl ?_
      refine XS.iload X0.here hx rfl (hb hby d11_32) rfl ?_
      exact k_
    by_cases hc34_11 : (x0 &&& (255 : Int32)) = ((255 : Int32) - (vv &&& (255 : Int32)))
    · skip
      obtain ⟨fs, hr, hrun, hended, hW, hsame⟩ := X0.leave (v := some (.int (1 : Int32))) (fun h => by rw [Bd.returns] at h; cases h)
      refine ⟨_, _, pre12 _ ?_, hrun, hended, _, _, rfl, ?_, ⟨_, rfl⟩, hW, hsame.mono (by decide) (by decide)⟩
      · show Steps p.tables e below (s₁.setTop (mkF m 34 #[rv ar, iv (0 : Int32), iv vv, iv fr, iv (vv &&& (255 : Int32)), iv ((255 : Int32) - (vv &&& (255 : Int32)))] [(.int ((255 : Int32) - (vv &&& (255 : Int32)))), (.int (x0 &&& (255 : Int32)))])) _
        refine XS.icmpNo X0.here hx rfl (hb hby d11_34) rfl (teq hc34_11).2 ?_
        show Steps p.tables e below (s₁.setTop (mkF m 37 #[rv ar, iv (0 : Int32), iv vv, iv fr, iv (vv &&& (255 : Int32)), iv ((255 : Int32) - (vv &&& (255 : Int32)))] [])) _
        refine XS.iconst X0.here hx rfl (hb hby d11_37) ?_
        refine XS.goto X0.here hx rfl (pc0 := 38) (pc' := 42) rfl (hb hby d11_38) (by decide) (by decide) ?_
        show Steps p.tables e below (s₁.setTop (mkF m 42 #[rv ar, iv (0 : Int32), iv vv, iv fr, iv (vv &&& (255 : Int32)), iv ((255 : Int32) - (vv &&& (255 : Int32)))] [(.int (1 : Int32))])) _
        exact retN X0 hx (t := .boolean) Bd.returns (by simp) (hb hby d11_42) hr
      · show Q_rm_ok4_0 Z _ _ _ _ _ _ _ h0 n0 _ s₁.heap _
        rw [e0]
        exact ⟨(by first | rfl | (simp [*]; done) | (simp_all; done)), N0, rfl⟩
    · skip
      obtain ⟨fs, hr, hrun, hended, hW, hsame⟩ := X0.leave (v := some (.int (0 : Int32))) (fun h => by rw [Bd.returns] at h; cases h)
      refine ⟨_, _, pre12 _ ?_, hrun, hended, _, _, rfl, ?_, ⟨_, rfl⟩, hW, hsame.mono (by decide) (by decide)⟩
      · show Steps p.tables e below (s₁.setTop (mkF m 34 #[rv ar, iv (0 : Int32), iv vv, iv fr, iv (vv &&& (255 : Int32)), iv ((255 : Int32) - (vv &&& (255 : Int32)))] [(.int ((255 : Int32) - (vv &&& (255 : Int32)))), (.int (x0 &&& (255 : Int32)))])) _
        refine XS.icmpYes X0.here hx rfl (pc0 := 34) (pc' := 41) rfl (hb hby d11_34) rfl (feq hc34_11).2 (by decide) (by decide) ?_
        refine XS.iconst X0.here hx rfl (hb hby d11_41) ?_
        show Steps p.tables e below (s₁.setTop (mkF m 42 #[rv ar, iv (0 : Int32), iv vv, iv fr, iv (vv &&& (255 : Int32)), iv ((255 : Int32) - (vv &&& (255 : Int32)))] [(.int (0 : Int32))])) _
        exact retN X0 hx (t := .boolean) Bd.returns (by simp) (hb hby d11_42) hr
      · show Q_rm_ok4_0 Z _ _ _ _ _ _ _ h0 n0 _ s₁.heap _
        rw [e0]
        exact ⟨(by first | rfl | (simp [*]; done) | (simp_all; done)), N0, rfl⟩
theorem ef_rm_ok4_1 (m : MethodId) (x0 : Addr) (x1 : Int32) (x2 : Int32) (x3 : Int32) : entryFrame m #[(.ref x0), (.int x1), (.int x2), (.int x3)] 6 = mkF m 0 #[rv x0, iv x1, iv x2, iv x3, .unset, .unset] [] := by first | (simp [entryFrame, mkF, argsToLocals, Value.category]; done) | rfl
def Q_rm_ok4_1 (Z : State) (ar : Addr) (vv : Int32) (fr : Int32) (x0 : Int32) (x1 : Int32) (x2 : Int32) (x3 : Int32) (h0 : Heap) (n0 : Nat) (v : Option Value) (h : Heap) (L : List Loc) : Prop := v = some (.int (if (x1 &&& (255 : Int32)) = (if (1 : Int32) < fr then (vv &&& (255 : Int32)) else ((255 : Int32) - (vv &&& (255 : Int32)))) then (1 : Int32) else (0 : Int32))) ∧ Fr n0 L ∧ h = h0
set_option maxRecDepth 65536 in
set_option maxHeartbeats 40000000 in
theorem rm_ok4_1 (l : Launch) (Z : State) (a0 : Array Value) (hw : ∀ d ∈ tables_1, d.before a0 Z = true) (ws : List Jvm.Cond) (ar : Addr) (vv : Int32) (fr : Int32) (x0 : Int32) (x1 : Int32) (x2 : Int32) (x3 : Int32) (h0 : Heap) (n0 : Nat) (Z0 : n0 ≤ h0.size) (pf_A_ar : Av Z h0 ar .byte (4 : Int32) [(.int x0), (.int x1), (.int x2), (.int x3)] (.int (0 : Int32))) :
    MetFree l (⟨"com/example/dido/dido/keys/KeyWriterInvertPinLaw", "ok", "([BIII)Z"⟩ : MethodName) (head1 (Jvm.Cond.code (⟨"com/example/dido/dido/keys/KeyWriterInvertPinLaw", "ok", "([BIII)Z"⟩ : MethodName) method_2_code 6 (some .boolean) :: ws) ({ frames := 0, cells := 0, slots := 0, locals := 0 } : Room)) (fun a U => a = #[(.ref ar), (.int (1 : Int32)), (.int vv), (.int fr)] ∧ Z.Warmed39 U.vm ∧ U.heap = h0) (fun _ _ _ _ _ => True) (fun _ U o U' => ∃ v L, o = .returned v ∧ Q_rm_ok4_1 Z ar vv fr x0 x1 x2 x3 h0 n0 v U'.heap L ∧ FrameEnd U o U' L ({ frames := 0, cells := 0, slots := 0, locals := 0 } : Room).cells ({ frames := 0, cells := 0, slots := 0, locals := 0 } : Room).slots) := by
  refine MetFree.of_bodySF (plainFor_of_name pn_com_example_dido_dido_keys_KeyWriterInvertPinLaw) hisR ?_
  intro p e s m args below meth c s₁ Bd hml0 hP hK
  obtain ⟨rfl, hZ, hh⟩ := hP
  have hx := Bd.exec
  have hby := Bd.bytes
  have hml : c.maxLocals = 6 := hml0
  have hown : s.vm.findClass "com/example/dido/dido/keys/KeyWriterInvertPinLaw" = some m.cls := findClass_of_methodNamed Bd.named
  have hnm := (name_of_methodNamed Bd.named Bd.method).1
  have X0 : Stand p l e ({ frames := 0, cells := 0, slots := 0, locals := 0 } : Room) s m #[(.ref ar), (.int (1 : Int32)), (.int vv), (.int fr)] below meth c s₁ [] 0 0 := Stand.of_body Bd
  have e0 : s₁.heap = h0 := by rw [← hh, Bd.state]; rfl
  have N0 := Fr.nil n0
  have pre0 : ∀ t, Steps p.tables e below (s₁.setTop (mkF m 0 #[rv ar, iv (1 : Int32), iv vv, iv fr, .unset, .unset] [])) t → Steps p.tables e below (s₁.setTop (entryFrame m #[(.ref ar), (.int (1 : Int32)), (.int vv), (.int fr)] 6)) t := fun t k => castTop (ef_rm_ok4_1 m ar (1 : Int32) vv fr) k
  have pre2 : ∀ t, Steps p.tables e below (s₁.setTop (mkF m 9 #[rv ar, iv (1 : Int32), iv vv, iv fr, iv (vv &&& (255 : Int32)), .unset] [(.int fr), (.int (1 : Int32))])) t → Steps p.tables e below (s₁.setTop (entryFrame m #[(.ref ar), (.int (1 : Int32)), (.int vv), (.int fr)] 6)) t := by
    intro t_ k_
    refine pre0 _ ?_
    show Steps p.tables e below (s₁.setTop (mkF m 0 #[rv ar, iv (1 : Int32), iv vv, iv fr, .unset, .unset] [])) _
    refine XS.iloadN X0.here hx rfl (hb hby d11_0) rfl ?_
    refine XS.sipush X0.here hx rfl (hb hby d11_1) ?_
    refine XS.iand X0.here hx rfl (hb hby d11_4) rfl ?_
    refine XS.istore X0.here hx rfl (hb hby d11_5) rfl (l' := #[rv ar, iv (1 : Int32), iv vv, iv fr, iv (vv &&& (255 : Int32)), .unset]) rfl ?_
    show Steps p.tables e below (s₁.setTop (mkF m 7 #[rv ar, iv (1 : Int32), iv vv, iv fr, iv (vv &&& (255 : Int32)), .unset] [])) _
    refine XS.iloadN X0.here hx rfl (hb hby d11_7) rfl ?_
    refine XS.iloadN X0.here hx rfl (hb hby d11_8) rfl ?_
    exact k_
  by_cases hc9_1 : (1 : Int32) < fr
  · skip
    obtain ⟨kk3, cl3, Ar3, qq3, Sz3, Nn3, Hs3, Gf3⟩ := id pf_A_ar
    have hin4 : ¬ ((1 : Int32) < 0 ∨ cl3.slots.size ≤ ((1 : Int32)).toNatClampNeg) := inb_of Sz3 ⟨by decide, by decide⟩
    have hat5 : cl3.slots[((1 : Int32)).toNatClampNeg]? = some (.int x1) := Has.at Hs3 hin4 rfl
    have pre7 : ∀ t, Steps p.tables e below (s₁.setTop (mkF m 34 #[rv ar, iv (1 : Int32), iv vv, iv fr, iv (vv &&& (255 : Int32)), iv (vv &&& (255 : Int32))] [(.int (vv &&& (255 : Int32))), (.int (x1 &&& (255 : Int32)))])) t → Steps p.tables e below (s₁.setTop (entryFrame m #[(.ref ar), (.int (1 : Int32)), (.int vv), (.int fr)] 6)) t := by
      intro t_ k_
      refine pre2 _ ?_
      show Steps p.tables e below (s₁.setTop (mkF m 9 #[rv ar, iv (1 : Int32), iv vv, iv fr, iv (vv &&& (255 : Int32)), .unset] [(.int fr), (.int (1 : Int32))])) _
      refine XS.icmpNo X0.here hx rfl (hb hby d11_9) rfl (tlt hc9_1).2.1 ?_
      refine XS.iload X0.here hx rfl (hb hby d11_12) rfl ?_
      show Steps p.tables e below (s₁.setTop (mkF m 14 #[rv ar, iv (1 : Int32), iv vv, iv fr, iv (vv &&& (255 : Int32)), .unset] [(.int (vv &&& (255 : Int32)))])) _
      refine XS.goto X0.here hx rfl (pc0 := 14) (pc' := 23) rfl (hb hby d11_14) (by decide) (by decide) ?_
      refine XS.istore X0.here hx rfl (hb hby d11_23) rfl (l' := #[rv ar, iv (1 : Int32), iv vv, iv fr, iv (vv &&& (255 : Int32)), iv (vv &&& (255 : Int32))]) rfl ?_
      refine XS.aloadN X0.here hx rfl (hb hby d11_25) rfl rfl ?_
      refine XS.iloadN X0.here hx rfl (hb hby d11_26) rfl ?_
      show Steps p.tables e below (s₁.setTop (mkF m 27 #[rv ar, iv (1 : Int32), iv vv, iv fr, iv (vv &&& (255 : Int32)), iv (vv &&& (255 : Int32))] [(.int (1 : Int32)), (.ref ar)])) _
      refine X0.baloadBytes hx (j := (1 : Int32)) (v := (.int x1)) (by rw [e0]; exact Ar3.1) (State.isArrayOf_alike hZ.alike Ar3.2.1) Ar3.2.2 hin4 hat5 (g := (mkF m 27 #[rv ar, iv (1 : Int32), iv vv, iv fr, iv (vv &&& (255 : Int32)), iv (vv &&& (255 : Int32))] [(.int (1 : Int32)), (.ref ar)])) rfl rfl (hb hby d11_27) _ ?_
      show Steps p.tables e below (s₁.setTop (mkF m 28 #[rv ar, iv (1 : Int32), iv vv, iv fr, iv (vv &&& (255 : Int32)), iv (vv &&& (255 : Int32))] [(.int x1)])) _
      refine XS.sipush X0.here hx rfl (hb hby d11_28) ?_
      refine XS.iand X0.here hx rfl (hb hby d11_31) rfl ?_
      refine XS.iload X0.here hx rfl (hb hby d11_32) rfl ?_
      exact k_
    by_cases hc34_6 : (x1 &&& (255 : Int32)) = (vv &&& (255 : Int32))
    · skip
      obtain ⟨fs, hr, hrun, hended, hW, hsame⟩ := X0.leave (v := some (.int (1 : Int32))) (fun h => by rw [Bd.returns] at h; cases h)
      refine ⟨_, _, pre7 _ ?_, hrun, hended, _, _, rfl, ?_, ⟨_, rfl⟩, hW, hsame.mono (by decide) (by decide)⟩
      · show Steps p.tables e below (s₁.setTop (mkF m 34 #[rv ar, iv (1 : Int32), iv vv, iv fr, iv (vv &&& (255 : Int32)), iv (vv &&& (255 : Int32))] [(.int (vv &&& (255 : Int32))), (.int (x1 &&& (255 : Int32)))])) _
        refine XS.icmpNo X0.here hx rfl (hb hby d11_34) rfl (teq hc34_6).2 ?_
        show Steps p.tables e below (s₁.setTop (mkF m 37 #[rv ar, iv (1 : Int32), iv vv, iv fr, iv (vv &&& (255 : Int32)), iv (vv &&& (255 : Int32))] [])) _
        refine XS.iconst X0.here hx rfl (hb hby d11_37) ?_
        refine XS.goto X0.here hx rfl (pc0 := 38) (pc' := 42) rfl (hb hby d11_38) (by decide) (by decide) ?_
        show Steps p.tables e below (s₁.setTop (mkF m 42 #[rv ar, iv (1 : Int32), iv vv, iv fr, iv (vv &&& (255 : Int32)), iv (vv &&& (255 : Int32))] [(.int (1 : Int32))])) _
        exact retN X0 hx (t := .boolean) Bd.returns (by simp) (hb hby d11_42) hr
      · show Q_rm_ok4_1 Z _ _ _ _ _ _ _ h0 n0 _ s₁.heap _
        rw [e0]
        exact ⟨(by first | rfl | (simp [*]; done) | (simp_all; done)), N0, rfl⟩
    · skip
      obtain ⟨fs, hr, hrun, hended, hW, hsame⟩ := X0.leave (v := some (.int (0 : Int32))) (fun h => by rw [Bd.returns] at h; cases h)
      refine ⟨_, _, pre7 _ ?_, hrun, hended, _, _, rfl, ?_, ⟨_, rfl⟩, hW, hsame.mono (by decide) (by decide)⟩
      · show Steps p.tables e below (s₁.setTop (mkF m 34 #[rv ar, iv (1 : Int32), iv vv, iv fr, iv (vv &&& (255 : Int32)), iv (vv &&& (255 : Int32))] [(.int (vv &&& (255 : Int32))), (.int (x1 &&& (255 : Int32)))])) _
        refine XS.icmpYes X0.here hx rfl (pc0 := 34) (pc' := 41) rfl (hb hby d11_34) rfl (feq hc34_6).2 (by decide) (by decide) ?_
        refine XS.iconst X0.here hx rfl (hb hby d11_41) ?_
        show Steps p.tables e below (s₁.setTop (mkF m 42 #[rv ar, iv (1 : Int32), iv vv, iv fr, iv (vv &&& (255 : Int32)), iv (vv &&& (255 : Int32))] [(.int (0 : Int32))])) _
        exact retN X0 hx (t := .boolean) Bd.returns (by simp) (hb hby d11_42) hr
      · show Q_rm_ok4_1 Z _ _ _ _ _ _ _ h0 n0 _ s₁.heap _
        rw [e0]
        exact ⟨(by first | rfl | (simp [*]; done) | (simp_all; done)), N0, rfl⟩
  · skip
    obtain ⟨kk8, cl8, Ar8, qq8, Sz8, Nn8, Hs8, Gf8⟩ := id pf_A_ar
    have hin9 : ¬ ((1 : Int32) < 0 ∨ cl8.slots.size ≤ ((1 : Int32)).toNatClampNeg) := inb_of Sz8 ⟨by decide, by decide⟩
    have hat10 : cl8.slots[((1 : Int32)).toNatClampNeg]? = some (.int x1) := Has.at Hs8 hin9 rfl
    have pre12 : ∀ t, Steps p.tables e below (s₁.setTop (mkF m 34 #[rv ar, iv (1 : Int32), iv vv, iv fr, iv (vv &&& (255 : Int32)), iv ((255 : Int32) - (vv &&& (255 : Int32)))] [(.int ((255 : Int32) - (vv &&& (255 : Int32)))), (.int (x1 &&& (255 : Int32)))])) t → Steps p.tables e below (s₁.setTop (entryFrame m #[(.ref ar), (.int (1 : Int32)), (.int vv), (.int fr)] 6)) t := by
      intro t_ k_
      refine pre2 _ ?_
      show Steps p.tables e below (s₁.setTop (mkF m 9 #[rv ar, iv (1 : Int32), iv vv, iv fr, iv (vv &&& (255 : Int32)), .unset] [(.int fr), (.int (1 : Int32))])) _
      refine XS.icmpYes X0.here hx rfl (pc0 := 9) (pc' := 17) rfl (hb hby d11_9) rfl (flt hc9_1).2.1 (by decide) (by decide) ?_
      refine XS.sipush X0.here hx rfl (hb hby d11_17) ?_
      refine XS.iload X0.here hx rfl (hb hby d11_20) rfl ?_
      show Steps p.tables e below (s₁.setTop (mkF m 22 #[rv ar, iv (1 : Int32), iv vv, iv fr, iv (vv &&& (255 : Int32)), .unset] [(.int (vv &&& (255 : Int32))), (.int (255 : Int32))])) _
      refine XS.isub X0.here hx rfl (hb hby d11_22) rfl ?_
      refine XS.istore X0.here hx rfl (hb hby d11_23) rfl (l' := #[rv ar, iv (1 : Int32), iv vv, iv fr, iv (vv &&& (255 : Int32)), iv ((255 : Int32) - (vv &&& (255 : Int32)))]) rfl ?_
      refine XS.aloadN X0.here hx rfl (hb hby d11_25) rfl rfl ?_
      refine XS.iloadN X0.here hx rfl (hb hby d11_26) rfl ?_
      show Steps p.tables e below (s₁.setTop (mkF m 27 #[rv ar, iv (1 : Int32), iv vv, iv fr, iv (vv &&& (255 : Int32)), iv ((255 : Int32) - (vv &&& (255 : Int32)))] [(.int (1 : Int32)), (.ref ar)])) _
      refine X0.baloadBytes hx (j := (1 : Int32)) (v := (.int x1)) (by rw [e0]; exact Ar8.1) (State.isArrayOf_alike hZ.alike Ar8.2.1) Ar8.2.2 hin9 hat10 (g := (mkF m 27 #[rv ar, iv (1 : Int32), iv vv, iv fr, iv (vv &&& (255 : Int32)), iv ((255 : Int32) - (vv &&& (255 : Int32)))] [(.int (1 : Int32)), (.ref ar)])) rfl rfl (hb hby d11_27) _ ?_
      show Steps p.tables e below (s₁.setTop (mkF m 28 #[rv ar, iv (1 : Int32), iv vv, iv fr, iv (vv &&& (255 : Int32)), iv ((255 : Int32) - (vv &&& (255 : Int32)))] [(.int x1)])) _
      refine XS.sipush X0.here hx rfl (hb hby d11_28) ?_
      refine XS.iand X0.here hx rfl (hb hby d11_31) rfl ?_
      refine XS.iload X0.here hx rfl (hb hby d11_32) rfl ?_
      exact k_
    by_cases hc34_11 : (x1 &&& (255 : Int32)) = ((255 : Int32) - (vv &&& (255 : Int32)))
    · skip
      obtain ⟨fs, hr, hrun, hended, hW, hsame⟩ := X0.leave (v := some (.int (1 : Int32))) (fun h => by rw [Bd.returns] at h; cases h)
      refine ⟨_, _, pre12 _ ?_, hrun, hended, _, _, rfl, ?_, ⟨_, rfl⟩, hW, hsame.mono (by decide) (by decide)⟩
      · show Steps p.tables e below (s₁.setTop (mkF m 34 #[rv ar, iv (1 : Int32), iv vv, iv fr, iv (vv &&& (255 : Int32)), iv ((255 : Int32) - (vv &&& (255 : Int32)))] [(.int ((255 : Int32) - (vv &&& (255 : Int32)))), (.int (x1 &&& (255 : Int32)))])) _
        refine XS.icmpNo X0.here hx rfl (hb hby d11_34) rfl (teq hc34_11).2 ?_
        show Steps p.tables e below (s₁.setTop (mkF m 37 #[rv ar, iv (1 : Int32), iv vv, iv fr, iv (vv &&& (255 : Int32)), iv ((255 : Int32) - (vv &&& (255 : Int32)))] [])) _
        refine XS.iconst X0.here hx rfl (hb hby d11_37) ?_
        refine XS.goto X0.here hx rfl (pc0 := 38) (pc' := 42) rfl (hb hby d11_38) (by decide) (by decide) ?_
        show Steps p.tables e below (s₁.setTop (mkF m 42 #[rv ar, iv (1 : Int32), iv vv, iv fr, iv (vv &&& (255 : Int32)), iv ((255 : Int32) - (vv &&& (255 : Int32)))] [(.int (1 : Int32))])) _
        exact retN X0 hx (t := .boolean) Bd.returns (by simp) (hb hby d11_42) hr
      · show Q_rm_ok4_1 Z _ _ _ _ _ _ _ h0 n0 _ s₁.heap _
        rw [e0]
        exact ⟨(by first | rfl | (simp [*]; done) | (simp_all; done)), N0, rfl⟩
    · skip
      obtain ⟨fs, hr, hrun, hended, hW, hsame⟩ := X0.leave (v := some (.int (0 : Int32))) (fun h => by rw [Bd.returns] at h; cases h)
      refine ⟨_, _, pre12 _ ?_, hrun, hended, _, _, rfl, ?_, ⟨_, rfl⟩, hW, hsame.mono (by decide) (by decide)⟩
      · show Steps p.tables e below (s₁.setTop (mkF m 34 #[rv ar, iv (1 : Int32), iv vv, iv fr, iv (vv &&& (255 : Int32)), iv ((255 : Int32) - (vv &&& (255 : Int32)))] [(.int ((255 : Int32) - (vv &&& (255 : Int32)))), (.int (x1 &&& (255 : Int32)))])) _
        refine XS.icmpYes X0.here hx rfl (pc0 := 34) (pc' := 41) rfl (hb hby d11_34) rfl (feq hc34_11).2 (by decide) (by decide) ?_
        refine XS.iconst X0.here hx rfl (hb hby d11_41) ?_
        show Steps p.tables e below (s₁.setTop (mkF m 42 #[rv ar, iv (1 : Int32), iv vv, iv fr, iv (vv &&& (255 : Int32)), iv ((255 : Int32) - (vv &&& (255 : Int32)))] [(.int (0 : Int32))])) _
        exact retN X0 hx (t := .boolean) Bd.returns (by simp) (hb hby d11_42) hr
      · show Q_rm_ok4_1 Z _ _ _ _ _ _ _ h0 n0 _ s₁.heap _
        rw [e0]
        exact ⟨(by first | rfl | (simp [*]; done) | (simp_all; done)), N0, rfl⟩
theorem ef_rm_ok4_2 (m : MethodId) (x0 : Addr) (x1 : Int32) (x2 : Int32) (x3 : Int32) : entryFrame m #[(.ref x0), (.int x1), (.int x2), (.int x3)] 6 = mkF m 0 #[rv x0, iv x1, iv x2, iv x3, .unset, .unset] [] := by first | (simp [entryFrame, mkF, argsToLocals, Value.category]; done) | rfl
def Q_rm_ok4_2 (Z : State) (ar : Addr) (vv : Int32) (fr : Int32) (x0 : Int32) (x1 : Int32) (x2 : Int32) (x3 : Int32) (h0 : Heap) (n0 : Nat) (v : Option Value) (h : Heap) (L : List Loc) : Prop := v = some (.int (if (x2 &&& (255 : Int32)) = (if (2 : Int32) < fr then (vv &&& (255 : Int32)) else ((255 : Int32) - (vv &&& (255 : Int32)))) then (1 : Int32) else (0 : Int32))) ∧ Fr n0 L ∧ h = h0
set_option maxRecDepth 65536 in
set_option maxHeartbeats 40000000 in
theorem rm_ok4_2 (l : Launch) (Z : State) (a0 : Array Value) (hw : ∀ d ∈ tables_1, d.before a0 Z = true) (ws : List Jvm.Cond) (ar : Addr) (vv : Int32) (fr : Int32) (x0 : Int32) (x1 : Int32) (x2 : Int32) (x3 : Int32) (h0 : Heap) (n0 : Nat) (Z0 : n0 ≤ h0.size) (pf_A_ar : Av Z h0 ar .byte (4 : Int32) [(.int x0), (.int x1), (.int x2), (.int x3)] (.int (0 : Int32))) :
    MetFree l (⟨"com/example/dido/dido/keys/KeyWriterInvertPinLaw", "ok", "([BIII)Z"⟩ : MethodName) (head1 (Jvm.Cond.code (⟨"com/example/dido/dido/keys/KeyWriterInvertPinLaw", "ok", "([BIII)Z"⟩ : MethodName) method_2_code 6 (some .boolean) :: ws) ({ frames := 0, cells := 0, slots := 0, locals := 0 } : Room)) (fun a U => a = #[(.ref ar), (.int (2 : Int32)), (.int vv), (.int fr)] ∧ Z.Warmed39 U.vm ∧ U.heap = h0) (fun _ _ _ _ _ => True) (fun _ U o U' => ∃ v L, o = .returned v ∧ Q_rm_ok4_2 Z ar vv fr x0 x1 x2 x3 h0 n0 v U'.heap L ∧ FrameEnd U o U' L ({ frames := 0, cells := 0, slots := 0, locals := 0 } : Room).cells ({ frames := 0, cells := 0, slots := 0, locals := 0 } : Room).slots) := by
  refine MetFree.of_bodySF (plainFor_of_name pn_com_example_dido_dido_keys_KeyWriterInvertPinLaw) hisR ?_
  intro p e s m args below meth c s₁ Bd hml0 hP hK
  obtain ⟨rfl, hZ, hh⟩ := hP
  have hx := Bd.exec
  have hby := Bd.bytes
  have hml : c.maxLocals = 6 := hml0
  have hown : s.vm.findClass "com/example/dido/dido/keys/KeyWriterInvertPinLaw" = some m.cls := findClass_of_methodNamed Bd.named
  have hnm := (name_of_methodNamed Bd.named Bd.method).1
  have X0 : Stand p l e ({ frames := 0, cells := 0, slots := 0, locals := 0 } : Room) s m #[(.ref ar), (.int (2 : Int32)), (.int vv), (.int fr)] below meth c s₁ [] 0 0 := Stand.of_body Bd
  have e0 : s₁.heap = h0 := by rw [← hh, Bd.state]; rfl
  have N0 := Fr.nil n0
  have pre0 : ∀ t, Steps p.tables e below (s₁.setTop (mkF m 0 #[rv ar, iv (2 : Int32), iv vv, iv fr, .unset, .unset] [])) t → Steps p.tables e below (s₁.setTop (entryFrame m #[(.ref ar), (.int (2 : Int32)), (.int vv), (.int fr)] 6)) t := fun t k => castTop (ef_rm_ok4_2 m ar (2 : Int32) vv fr) k
  have pre2 : ∀ t, Steps p.tables e below (s₁.setTop (mkF m 9 #[rv ar, iv (2 : Int32), iv vv, iv fr, iv (vv &&& (255 : Int32)), .unset] [(.int fr), (.int (2 : Int32))])) t → Steps p.tables e below (s₁.setTop (entryFrame m #[(.ref ar), (.int (2 : Int32)), (.int vv), (.int fr)] 6)) t := by
    intro t_ k_
    refine pre0 _ ?_
    show Steps p.tables e below (s₁.setTop (mkF m 0 #[rv ar, iv (2 : Int32), iv vv, iv fr, .unset, .unset] [])) _
    refine XS.iloadN X0.here hx rfl (hb hby d11_0) rfl ?_
    refine XS.sipush X0.here hx rfl (hb hby d11_1) ?_
    refine XS.iand X0.here hx rfl (hb hby d11_4) rfl ?_
    refine XS.istore X0.here hx rfl (hb hby d11_5) rfl (l' := #[rv ar, iv (2 : Int32), iv vv, iv fr, iv (vv &&& (255 : Int32)), .unset]) rfl ?_
    show Steps p.tables e below (s₁.setTop (mkF m 7 #[rv ar, iv (2 : Int32), iv vv, iv fr, iv (vv &&& (255 : Int32)), .unset] [])) _
    refine XS.iloadN X0.here hx rfl (hb hby d11_7) rfl ?_
    refine XS.iloadN X0.here hx rfl (hb hby d11_8) rfl ?_
    exact k_
  by_cases hc9_1 : (2 : Int32) < fr
  · skip
    obtain ⟨kk3, cl3, Ar3, qq3, Sz3, Nn3, Hs3, Gf3⟩ := id pf_A_ar
    have hin4 : ¬ ((2 : Int32) < 0 ∨ cl3.slots.size ≤ ((2 : Int32)).toNatClampNeg) := inb_of Sz3 ⟨by decide, by decide⟩
    have hat5 : cl3.slots[((2 : Int32)).toNatClampNeg]? = some (.int x2) := Has.at Hs3 hin4 rfl
    have pre7 : ∀ t, Steps p.tables e below (s₁.setTop (mkF m 34 #[rv ar, iv (2 : Int32), iv vv, iv fr, iv (vv &&& (255 : Int32)), iv (vv &&& (255 : Int32))] [(.int (vv &&& (255 : Int32))), (.int (x2 &&& (255 : Int32)))])) t → Steps p.tables e below (s₁.setTop (entryFrame m #[(.ref ar), (.int (2 : Int32)), (.int vv), (.int fr)] 6)) t := by
      intro t_ k_
      refine pre2 _ ?_
      show Steps p.tables e below (s₁.setTop (mkF m 9 #[rv ar, iv (2 : Int32), iv vv, iv fr, iv (vv &&& (255 : Int32)), .unset] [(.int fr), (.int (2 : Int32))])) _
      refine XS.icmpNo X0.here hx rfl (hb hby d11_9) rfl (tlt hc9_1).2.1 ?_
      refine XS.iload X0.here hx rfl (hb hby d11_12) rfl ?_
      show Steps p.tables e below (s₁.setTop (mkF m 14 #[rv ar, iv (2 : Int32), iv vv, iv fr, iv (vv &&& (255 : Int32)), .unset] [(.int (vv &&& (255 : Int32)))])) _
      refine XS.goto X0.here hx rfl (pc0 := 14) (pc' := 23) rfl (hb hby d11_14) (by decide) (by decide) ?_
      refine XS.istore X0.here hx rfl (hb hby d11_23) rfl (l' := #[rv ar, iv (2 : Int32), iv vv, iv fr, iv (vv &&& (255 : Int32)), iv (vv &&& (255 : Int32))]) rfl ?_
      refine XS.aloadN X0.here hx rfl (hb hby d11_25) rfl rfl ?_
      refine XS.iloadN X0.here hx rfl (hb hby d11_26) rfl ?_
      show Steps p.tables e below (s₁.setTop (mkF m 27 #[rv ar, iv (2 : Int32), iv vv, iv fr, iv (vv &&& (255 : Int32)), iv (vv &&& (255 : Int32))] [(.int (2 : Int32)), (.ref ar)])) _
      refine X0.baloadBytes hx (j := (2 : Int32)) (v := (.int x2)) (by rw [e0]; exact Ar3.1) (State.isArrayOf_alike hZ.alike Ar3.2.1) Ar3.2.2 hin4 hat5 (g := (mkF m 27 #[rv ar, iv (2 : Int32), iv vv, iv fr, iv (vv &&& (255 : Int32)), iv (vv &&& (255 : Int32))] [(.int (2 : Int32)), (.ref ar)])) rfl rfl (hb hby d11_27) _ ?_
      show Steps p.tables e below (s₁.setTop (mkF m 28 #[rv ar, iv (2 : Int32), iv vv, iv fr, iv (vv &&& (255 : Int32)), iv (vv &&& (255 : Int32))] [(.int x2)])) _
      refine XS.sipush X0.here hx rfl (hb hby d11_28) ?_
      refine XS.iand X0.here hx rfl (hb hby d11_31) rfl ?_
      refine XS.iload X0.here hx rfl (hb hby d11_32) rfl ?_
      exact k_
    by_cases hc34_6 : (x2 &&& (255 : Int32)) = (vv &&& (255 : Int32))
    · skip
      obtain ⟨fs, hr, hrun, hended, hW, hsame⟩ := X0.leave (v := some (.int (1 : Int32))) (fun h => by rw [Bd.returns] at h; cases h)
      refine ⟨_, _, pre7 _ ?_, hrun, hended, _, _, rfl, ?_, ⟨_, rfl⟩, hW, hsame.mono (by decide) (by decide)⟩
      · show Steps p.tables e below (s₁.setTop (mkF m 34 #[rv ar, iv (2 : Int32), iv vv, iv fr, iv (vv &&& (255 : Int32)), iv (vv &&& (255 : Int32))] [(.int (vv &&& (255 : Int32))), (.int (x2 &&& (255 : Int32)))])) _
        refine XS.icmpNo X0.here hx rfl (hb hby d11_34) rfl (teq hc34_6).2 ?_
        show Steps p.tables e below (s₁.setTop (mkF m 37 #[rv ar, iv (2 : Int32), iv vv, iv fr, iv (vv &&& (255 : Int32)), iv (vv &&& (255 : Int32))] [])) _
        refine XS.iconst X0.here hx rfl (hb hby d11_37) ?_
        refine XS.goto X0.here hx rfl (pc0 := 38) (pc' := 42) rfl (hb hby d11_38) (by decide) (by decide) ?_
        show Steps p.tables e below (s₁.setTop (mkF m 42 #[rv ar, iv (2 : Int32), iv vv, iv fr, iv (vv &&& (255 : Int32)), iv (vv &&& (255 : Int32))] [(.int (1 : Int32))])) _
        exact retN X0 hx (t := .boolean) Bd.returns (by simp) (hb hby d11_42) hr
      · show Q_rm_ok4_2 Z _ _ _ _ _ _ _ h0 n0 _ s₁.heap _
        rw [e0]
        exact ⟨(by first | rfl | (simp [*]; done) | (simp_all; done)), N0, rfl⟩
    · skip
      obtain ⟨fs, hr, hrun, hended, hW, hsame⟩ := X0.leave (v := some (.int (0 : Int32))) (fun h => by rw [Bd.returns] at h; cases h)
      refine ⟨_, _, pre7 _ ?_, hrun, hended, _, _, rfl, ?_, ⟨_, rfl⟩, hW, hsame.mono (by decide) (by decide)⟩
      · show Steps p.tables e below (s₁.setTop (mkF m 34 #[rv ar, iv (2 : Int32), iv vv, iv fr, iv (vv &&& (255 : Int32)), iv (vv &&& (255 : Int32))] [(.int (vv &&& (255 : Int32))), (.int (x2 &&& (255 : Int32)))])) _
        refine XS.icmpYes X0.here hx rfl (pc0 := 34) (pc' := 41) rfl (hb hby d11_34) rfl (feq hc34_6).2 (by decide) (by decide) ?_
        refine XS.iconst X0.here hx rfl (hb hby d11_41) ?_
        show Steps p.tables e below (s₁.setTop (mkF m 42 #[rv ar, iv (2 : Int32), iv vv, iv fr, iv (vv &&& (255 : Int32)), iv (vv &&& (255 : Int32))] [(.int (0 : Int32))])) _
        exact retN X0 hx (t := .boolean) Bd.returns (by simp) (hb hby d11_42) hr
      · show Q_rm_ok4_2 Z _ _ _ _ _ _ _ h0 n0 _ s₁.heap _
        rw [e0]
        exact ⟨(by first | rfl | (simp [*]; done) | (simp_all; done)), N0, rfl⟩
  · skip
    obtain ⟨kk8, cl8, Ar8, qq8, Sz8, Nn8, Hs8, Gf8⟩ := id pf_A_ar
    have hin9 : ¬ ((2 : Int32) < 0 ∨ cl8.slots.size ≤ ((2 : Int32)).toNatClampNeg) := inb_of Sz8 ⟨by decide, by decide⟩
    have hat10 : cl8.slots[((2 : Int32)).toNatClampNeg]? = some (.int x2) := Has.at Hs8 hin9 rfl
    have pre12 : ∀ t, Steps p.tables e below (s₁.setTop (mkF m 34 #[rv ar, iv (2 : Int32), iv vv, iv fr, iv (vv &&& (255 : Int32)), iv ((255 : Int32) - (vv &&& (255 : Int32)))] [(.int ((255 : Int32) - (vv &&& (255 : Int32)))), (.int (x2 &&& (255 : Int32)))])) t → Steps p.tables e below (s₁.setTop (entryFrame m #[(.ref ar), (.int (2 : Int32)), (.int vv), (.int fr)] 6)) t := by
      intro t_ k_
      refine pre2 _ ?_
      show Steps p.tables e below (s₁.setTop (mkF m 9 #[rv ar, iv (2 : Int32), iv vv, iv fr, iv (vv &&& (255 : Int32)), .unset] [(.int fr), (.int (2 : Int32))])) _
      refine XS.icmpYes X0.here hx rfl (pc0 := 9) (pc' := 17) rfl (hb hby d11_9) rfl (flt hc9_1).2.1 (by decide) (by decide) ?_
      refine XS.sipush X0.here hx rfl (hb hby d11_17) ?_
      refine XS.iload X0.here hx rfl (hb hby d11_20) rfl ?_
      show Steps p.tables e below (s₁.setTop (mkF m 22 #[rv ar, iv (2 : Int32), iv vv, iv fr, iv (vv &&& (255 : Int32)), .unset] [(.int (vv &&& (255 : Int32))), (.int (255 : Int32))])) _
      refine XS.isub X0.here hx rfl (hb hby d11_22) rfl ?_
      refine XS.istore X0.here hx rfl (hb hby d11_23) rfl (l' := #[rv ar, iv (2 : Int32), iv vv, iv fr, iv (vv &&& (255 : Int32)), iv ((255 : Int32) - (vv &&& (255 : Int32)))]) rfl ?_
      refine XS.aloadN X0.here hx rfl (hb hby d11_25) rfl rfl ?_
      refine XS.iloadN X0.here hx rfl (hb hby d11_26) rfl ?_
      show Steps p.tables e below (s₁.setTop (mkF m 27 #[rv ar, iv (2 : Int32), iv vv, iv fr, iv (vv &&& (255 : Int32)), iv ((255 : Int32) - (vv &&& (255 : Int32)))] [(.int (2 : Int32)), (.ref ar)])) _
      refine X0.baloadBytes hx (j := (2 : Int32)) (v := (.int x2)) (by rw [e0]; exact Ar8.1) (State.isArrayOf_alike hZ.alike Ar8.2.1) Ar8.2.2 hin9 hat10 (g := (mkF m 27 #[rv ar, iv (2 : Int32), iv vv, iv fr, iv (vv &&& (255 : Int32)), iv ((255 : Int32) - (vv &&& (255 : Int32)))] [(.int (2 : Int32)), (.ref ar)])) rfl rfl (hb hby d11_27) _ ?_
      show Steps p.tables e below (s₁.setTop (mkF m 28 #[rv ar, iv (2 : Int32), iv vv, iv fr, iv (vv &&& (255 : Int32)), iv ((255 : Int32) - (vv &&& (255 : Int32)))] [(.int x2)])) _
      refine XS.sipush X0.here hx rfl (hb hby d11_28) ?_
      refine XS.iand X0.here hx rfl (hb hby d11_31) rfl ?_
      refine XS.iload X0.here hx rfl (hb hby d11_32) rfl ?_
      exact k_
    by_cases hc34_11 : (x2 &&& (255 : Int32)) = ((255 : Int32) - (vv &&& (255 : Int32)))
    · skip
      obtain ⟨fs, hr, hrun, hended, hW, hsame⟩ := X0.leave (v := some (.int (1 : Int32))) (fun h => by rw [Bd.returns] at h; cases h)
      refine ⟨_, _, pre12 _ ?_, hrun, hended, _, _, rfl, ?_, ⟨_, rfl⟩, hW, hsame.mono (by decide) (by decide)⟩
      · show Steps p.tables e below (s₁.setTop (mkF m 34 #[rv ar, iv (2 : Int32), iv vv, iv fr, iv (vv &&& (255 : Int32)), iv ((255 : Int32) - (vv &&& (255 : Int32)))] [(.int ((255 : Int32) - (vv &&& (255 : Int32)))), (.int (x2 &&& (255 : Int32)))])) _
        refine XS.icmpNo X0.here hx rfl (hb hby d11_34) rfl (teq hc34_11).2 ?_
        show Steps p.tables e below (s₁.setTop (mkF m 37 #[rv ar, iv (2 : Int32), iv vv, iv fr, iv (vv &&& (255 : Int32)), iv ((255 : Int32) - (vv &&& (255 : Int32)))] [])) _
        refine XS.iconst X0.here hx rfl (hb hby d11_37) ?_
        refine XS.goto X0.here hx rfl (pc0 := 38) (pc' := 42) rfl (hb hby d11_38) (by decide) (by decide) ?_
        show Steps p.tables e below (s₁.setTop (mkF m 42 #[rv ar, iv (2 : Int32), iv vv, iv fr, iv (vv &&& (255 : Int32)), iv ((255 : Int32) - (vv &&& (255 : Int32)))] [(.int (1 : Int32))])) _
        exact retN X0 hx (t := .boolean) Bd.returns (by simp) (hb hby d11_42) hr
      · show Q_rm_ok4_2 Z _ _ _ _ _ _ _ h0 n0 _ s₁.heap _
        rw [e0]
        exact ⟨(by first | rfl | (simp [*]; done) | (simp_all; done)), N0, rfl⟩
    · skip
      obtain ⟨fs, hr, hrun, hended, hW, hsame⟩ := X0.leave (v := some (.int (0 : Int32))) (fun h => by rw [Bd.returns] at h; cases h)
      refine ⟨_, _, pre12 _ ?_, hrun, hended, _, _, rfl, ?_, ⟨_, rfl⟩, hW, hsame.mono (by decide) (by decide)⟩
      · show Steps p.tables e below (s₁.setTop (mkF m 34 #[rv ar, iv (2 : Int32), iv vv, iv fr, iv (vv &&& (255 : Int32)), iv ((255 : Int32) - (vv &&& (255 : Int32)))] [(.int ((255 : Int32) - (vv &&& (255 : Int32)))), (.int (x2 &&& (255 : Int32)))])) _
        refine XS.icmpYes X0.here hx rfl (pc0 := 34) (pc' := 41) rfl (hb hby d11_34) rfl (feq hc34_11).2 (by decide) (by decide) ?_
        refine XS.iconst X0.here hx rfl (hb hby d11_41) ?_
        show Steps p.tables e below (s₁.setTop (mkF m 42 #[rv ar, iv (2 : Int32), iv vv, iv fr, iv (vv &&& (255 : Int32)), iv ((255 : Int32) - (vv &&& (255 : Int32)))] [(.int (0 : Int32))])) _
        exact retN X0 hx (t := .boolean) Bd.returns (by simp) (hb hby d11_42) hr
      · show Q_rm_ok4_2 Z _ _ _ _ _ _ _ h0 n0 _ s₁.heap _
        rw [e0]
        exact ⟨(by first | rfl | (simp [*]; done) | (simp_all; done)), N0, rfl⟩
theorem ef_rm_ok4_3 (m : MethodId) (x0 : Addr) (x1 : Int32) (x2 : Int32) (x3 : Int32) : entryFrame m #[(.ref x0), (.int x1), (.int x2), (.int x3)] 6 = mkF m 0 #[rv x0, iv x1, iv x2, iv x3, .unset, .unset] [] := by first | (simp [entryFrame, mkF, argsToLocals, Value.category]; done) | rfl
def Q_rm_ok4_3 (Z : State) (ar : Addr) (vv : Int32) (fr : Int32) (x0 : Int32) (x1 : Int32) (x2 : Int32) (x3 : Int32) (h0 : Heap) (n0 : Nat) (v : Option Value) (h : Heap) (L : List Loc) : Prop := v = some (.int (if (x3 &&& (255 : Int32)) = (if (3 : Int32) < fr then (vv &&& (255 : Int32)) else ((255 : Int32) - (vv &&& (255 : Int32)))) then (1 : Int32) else (0 : Int32))) ∧ Fr n0 L ∧ h = h0
set_option maxRecDepth 65536 in
set_option maxHeartbeats 40000000 in
theorem rm_ok4_3 (l : Launch) (Z : State) (a0 : Array Value) (hw : ∀ d ∈ tables_1, d.before a0 Z = true) (ws : List Jvm.Cond) (ar : Addr) (vv : Int32) (fr : Int32) (x0 : Int32) (x1 : Int32) (x2 : Int32) (x3 : Int32) (h0 : Heap) (n0 : Nat) (Z0 : n0 ≤ h0.size) (pf_A_ar : Av Z h0 ar .byte (4 : Int32) [(.int x0), (.int x1), (.int x2), (.int x3)] (.int (0 : Int32))) :
    MetFree l (⟨"com/example/dido/dido/keys/KeyWriterInvertPinLaw", "ok", "([BIII)Z"⟩ : MethodName) (head1 (Jvm.Cond.code (⟨"com/example/dido/dido/keys/KeyWriterInvertPinLaw", "ok", "([BIII)Z"⟩ : MethodName) method_2_code 6 (some .boolean) :: ws) ({ frames := 0, cells := 0, slots := 0, locals := 0 } : Room)) (fun a U => a = #[(.ref ar), (.int (3 : Int32)), (.int vv), (.int fr)] ∧ Z.Warmed39 U.vm ∧ U.heap = h0) (fun _ _ _ _ _ => True) (fun _ U o U' => ∃ v L, o = .returned v ∧ Q_rm_ok4_3 Z ar vv fr x0 x1 x2 x3 h0 n0 v U'.heap L ∧ FrameEnd U o U' L ({ frames := 0, cells := 0, slots := 0, locals := 0 } : Room).cells ({ frames := 0, cells := 0, slots := 0, locals := 0 } : Room).slots) := by
  refine MetFree.of_bodySF (plainFor_of_name pn_com_example_dido_dido_keys_KeyWriterInvertPinLaw) hisR ?_
  intro p e s m args below meth c s₁ Bd hml0 hP hK
  obtain ⟨rfl, hZ, hh⟩ := hP
  have hx := Bd.exec
  have hby := Bd.bytes
  have hml : c.maxLocals = 6 := hml0
  have hown : s.vm.findClass "com/example/dido/dido/keys/KeyWriterInvertPinLaw" = some m.cls := findClass_of_methodNamed Bd.named
  have hnm := (name_of_methodNamed Bd.named Bd.method).1
  have X0 : Stand p l e ({ frames := 0, cells := 0, slots := 0, locals := 0 } : Room) s m #[(.ref ar), (.int (3 : Int32)), (.int vv), (.int fr)] below meth c s₁ [] 0 0 := Stand.of_body Bd
  have e0 : s₁.heap = h0 := by rw [← hh, Bd.state]; rfl
  have N0 := Fr.nil n0
  have pre0 : ∀ t, Steps p.tables e below (s₁.setTop (mkF m 0 #[rv ar, iv (3 : Int32), iv vv, iv fr, .unset, .unset] [])) t → Steps p.tables e below (s₁.setTop (entryFrame m #[(.ref ar), (.int (3 : Int32)), (.int vv), (.int fr)] 6)) t := fun t k => castTop (ef_rm_ok4_3 m ar (3 : Int32) vv fr) k
  have pre2 : ∀ t, Steps p.tables e below (s₁.setTop (mkF m 9 #[rv ar, iv (3 : Int32), iv vv, iv fr, iv (vv &&& (255 : Int32)), .unset] [(.int fr), (.int (3 : Int32))])) t → Steps p.tables e below (s₁.setTop (entryFrame m #[(.ref ar), (.int (3 : Int32)), (.int vv), (.int fr)] 6)) t := by
    intro t_ k_
    refine pre0 _ ?_
    show Steps p.tables e below (s₁.setTop (mkF m 0 #[rv ar, iv (3 : Int32), iv vv, iv fr, .unset, .unset] [])) _
    refine XS.iloadN X0.here hx rfl (hb hby d11_0) rfl ?_
    refine XS.sipush X0.here hx rfl (hb hby d11_1) ?_
    refine XS.iand X0.here hx rfl (hb hby d11_4) rfl ?_
    refine XS.istore X0.here hx rfl (hb hby d11_5) rfl (l' := #[rv ar, iv (3 : Int32), iv vv, iv fr, iv (vv &&& (255 : Int32)), .unset]) rfl ?_
    show Steps p.tables e below (s₁.setTop (mkF m 7 #[rv ar, iv (3 : Int32), iv vv, iv fr, iv (vv &&& (255 : Int32)), .unset] [])) _
    refine XS.iloadN X0.here hx rfl (hb hby d11_7) rfl ?_
    refine XS.iloadN X0.here hx rfl (hb hby d11_8) rfl ?_
    exact k_
  by_cases hc9_1 : (3 : Int32) < fr
  · skip
    obtain ⟨kk3, cl3, Ar3, qq3, Sz3, Nn3, Hs3, Gf3⟩ := id pf_A_ar
    have hin4 : ¬ ((3 : Int32) < 0 ∨ cl3.slots.size ≤ ((3 : Int32)).toNatClampNeg) := inb_of Sz3 ⟨by decide, by decide⟩
    have hat5 : cl3.slots[((3 : Int32)).toNatClampNeg]? = some (.int x3) := Has.at Hs3 hin4 rfl
    have pre7 : ∀ t, Steps p.tables e below (s₁.setTop (mkF m 34 #[rv ar, iv (3 : Int32), iv vv, iv fr, iv (vv &&& (255 : Int32)), iv (vv &&& (255 : Int32))] [(.int (vv &&& (255 : Int32))), (.int (x3 &&& (255 : Int32)))])) t → Steps p.tables e below (s₁.setTop (entryFrame m #[(.ref ar), (.int (3 : Int32)), (.int vv), (.int fr)] 6)) t := by
      intro t_ k_
      refine pre2 _ ?_
      show Steps p.tables e below (s₁.setTop (mkF m 9 #[rv ar, iv (3 : Int32), iv vv, iv fr, iv (vv &&& (255 : Int32)), .unset] [(.int fr), (.int (3 : Int32))])) _
      refine XS.icmpNo X0.here hx rfl (hb hby d11_9) rfl (tlt hc9_1).2.1 ?_
      refine XS.iload X0.here hx rfl (hb hby d11_12) rfl ?_
      show Steps p.tables e below (s₁.setTop (mkF m 14 #[rv ar, iv (3 : Int32), iv vv, iv fr, iv (vv &&& (255 : Int32)), .unset] [(.int (vv &&& (255 : Int32)))])) _
      refine XS.goto X0.here hx rfl (pc0 := 14) (pc' := 23) rfl (hb hby d11_14) (by decide) (by decide) ?_
      refine XS.istore X0.here hx rfl (hb hby d11_23) rfl (l' := #[rv ar, iv (3 : Int32), iv vv, iv fr, iv (vv &&& (255 : Int32)), iv (vv &&& (255 : Int32))]) rfl ?_
      refine XS.aloadN X0.here hx rfl (hb hby d11_25) rfl rfl ?_
      refine XS.iloadN X0.here hx rfl (hb hby d11_26) rfl ?_
      show Steps p.tables e below (s₁.setTop (mkF m 27 #[rv ar, iv (3 : Int32), iv vv, iv fr, iv (vv &&& (255 : Int32)), iv (vv &&& (255 : Int32))] [(.int (3 : Int32)), (.ref ar)])) _
      refine X0.baloadBytes hx (j := (3 : Int32)) (v := (.int x3)) (by rw [e0]; exact Ar3.1) (State.isArrayOf_alike hZ.alike Ar3.2.1) Ar3.2.2 hin4 hat5 (g := (mkF m 27 #[rv ar, iv (3 : Int32), iv vv, iv fr, iv (vv &&& (255 : Int32)), iv (vv &&& (255 : Int32))] [(.int (3 : Int32)), (.ref ar)])) rfl rfl (hb hby d11_27) _ ?_
      show Steps p.tables e below (s₁.setTop (mkF m 28 #[rv ar, iv (3 : Int32), iv vv, iv fr, iv (vv &&& (255 : Int32)), iv (vv &&& (255 : Int32))] [(.int x3)])) _
      refine XS.sipush X0.here hx rfl (hb hby d11_28) ?_
      refine XS.iand X0.here hx rfl (hb hby d11_31) rfl ?_
      refine XS.iload X0.here hx rfl (hb hby d11_32) rfl ?_
      exact k_
    by_cases hc34_6 : (x3 &&& (255 : Int32)) = (vv &&& (255 : Int32))
    · skip
      obtain ⟨fs, hr, hrun, hended, hW, hsame⟩ := X0.leave (v := some (.int (1 : Int32))) (fun h => by rw [Bd.returns] at h; cases h)
      refine ⟨_, _, pre7 _ ?_, hrun, hended, _, _, rfl, ?_, ⟨_, rfl⟩, hW, hsame.mono (by decide) (by decide)⟩
      · show Steps p.tables e below (s₁.setTop (mkF m 34 #[rv ar, iv (3 : Int32), iv vv, iv fr, iv (vv &&& (255 : Int32)), iv (vv &&& (255 : Int32))] [(.int (vv &&& (255 : Int32))), (.int (x3 &&& (255 : Int32)))])) _
        refine XS.icmpNo X0.here hx rfl (hb hby d11_34) rfl (teq hc34_6).2 ?_
        show Steps p.tables e below (s₁.setTop (mkF m 37 #[rv ar, iv (3 : Int32), iv vv, iv fr, iv (vv &&& (255 : Int32)), iv (vv &&& (255 : Int32))] [])) _
        refine XS.iconst X0.here hx rfl (hb hby d11_37) ?_
        refine XS.goto X0.here hx rfl (pc0 := 38) (pc' := 42) rfl (hb hby d11_38) (by decide) (by decide) ?_
        show Steps p.tables e below (s₁.setTop (mkF m 42 #[rv ar, iv (3 : Int32), iv vv, iv fr, iv (vv &&& (255 : Int32)), iv (vv &&& (255 : Int32))] [(.int (1 : Int32))])) _
        exact retN X0 hx (t := .boolean) Bd.returns (by simp) (hb hby d11_42) hr
      · show Q_rm_ok4_3 Z _ _ _ _ _ _ _ h0 n0 _ s₁.heap _
        rw [e0]
        exact ⟨(by first | rfl | (simp [*]; done) | (simp_all; done)), N0, rfl⟩
    · skip
      obtain ⟨fs, hr, hrun, hended, hW, hsame⟩ := X0.leave (v := some (.int (0 : Int32))) (fun h => by rw [Bd.returns] at h; cases h)
      refine ⟨_, _, pre7 _ ?_, hrun, hended, _, _, rfl, ?_, ⟨_, rfl⟩, hW, hsame.mono (by decide) (by decide)⟩
      · show Steps p.tables e below (s₁.setTop (mkF m 34 #[rv ar, iv (3 : Int32), iv vv, iv fr, iv (vv &&& (255 : Int32)), iv (vv &&& (255 : Int32))] [(.int (vv &&& (255 : Int32))), (.int (x3 &&& (255 : Int32)))])) _
        refine XS.icmpYes X0.here hx rfl (pc0 := 34) (pc' := 41) rfl (hb hby d11_34) rfl (feq hc34_6).2 (by decide) (by decide) ?_
        refine XS.iconst X0.here hx rfl (hb hby d11_41) ?_
        show Steps p.tables e below (s₁.setTop (mkF m 42 #[rv ar, iv (3 : Int32), iv vv, iv fr, iv (vv &&& (255 : Int32)), iv (vv &&& (255 : Int32))] [(.int (0 : Int32))])) _
        exact retN X0 hx (t := .boolean) Bd.returns (by simp) (hb hby d11_42) hr
      · show Q_rm_ok4_3 Z _ _ _ _ _ _ _ h0 n0 _ s₁.heap _
        rw [e0]
        exact ⟨(by first | rfl | (simp [*]; done) | (simp_all; done)), N0, rfl⟩
  · skip
    obtain ⟨kk8, cl8, Ar8, qq8, Sz8, Nn8, Hs8, Gf8⟩ := id pf_A_ar
    have hin9 : ¬ ((3 : Int32) < 0 ∨ cl8.slots.size ≤ ((3 : Int32)).toNatClampNeg) := inb_of Sz8 ⟨by decide, by decide⟩
    have hat10 : cl8.slots[((3 : Int32)).toNatClampNeg]? = some (.int x3) := Has.at Hs8 hin9 rfl
    have pre12 : ∀ t, Steps p.tables e below (s₁.setTop (mkF m 34 #[rv ar, iv (3 : Int32), iv vv, iv fr, iv (vv &&& (255 : Int32)), iv ((255 : Int32) - (vv &&& (255 : Int32)))] [(.int ((255 : Int32) - (vv &&& (255 : Int32)))), (.int (x3 &&& (255 : Int32)))])) t → Steps p.tables e below (s₁.setTop (entryFrame m #[(.ref ar), (.int (3 : Int32)), (.int vv), (.int fr)] 6)) t := by
      intro t_ k_
      refine pre2 _ ?_
      show Steps p.tables e below (s₁.setTop (mkF m 9 #[rv ar, iv (3 : Int32), iv vv, iv fr, iv (vv &&& (255 : Int32)), .unset] [(.int fr), (.int (3 : Int32))])) _
      refine XS.icmpYes X0.here hx rfl (pc0 := 9) (pc' := 17) rfl (hb hby d11_9) rfl (flt hc9_1).2.1 (by decide) (by decide) ?_
      refine XS.sipush X0.here hx rfl (hb hby d11_17) ?_
      refine XS.iload X0.here hx rfl (hb hby d11_20) rfl ?_
      show Steps p.tables e below (s₁.setTop (mkF m 22 #[rv ar, iv (3 : Int32), iv vv, iv fr, iv (vv &&& (255 : Int32)), .unset] [(.int (vv &&& (255 : Int32))), (.int (255 : Int32))])) _
      refine XS.isub X0.here hx rfl (hb hby d11_22) rfl ?_
      refine XS.istore X0.here hx rfl (hb hby d11_23) rfl (l' := #[rv ar, iv (3 : Int32), iv vv, iv fr, iv (vv &&& (255 : Int32)), iv ((255 : Int32) - (vv &&& (255 : Int32)))]) rfl ?_
      refine XS.aloadN X0.here hx rfl (hb hby d11_25) rfl rfl ?_
      refine XS.iloadN X0.here hx rfl (hb hby d11_26) rfl ?_
      show Steps p.tables e below (s₁.setTop (mkF m 27 #[rv ar, iv (3 : Int32), iv vv, iv fr, iv (vv &&& (255 : Int32)), iv ((255 : Int32) - (vv &&& (255 : Int32)))] [(.int (3 : Int32)), (.ref ar)])) _
      refine X0.baloadBytes hx (j := (3 : Int32)) (v := (.int x3)) (by rw [e0]; exact Ar8.1) (State.isArrayOf_alike hZ.alike Ar8.2.1) Ar8.2.2 hin9 hat10 (g := (mkF m 27 #[rv ar, iv (3 : Int32), iv vv, iv fr, iv (vv &&& (255 : Int32)), iv ((255 : Int32) - (vv &&& (255 : Int32)))] [(.int (3 : Int32)), (.ref ar)])) rfl rfl (hb hby d11_27) _ ?_
      show Steps p.tables e below (s₁.setTop (mkF m 28 #[rv ar, iv (3 : Int32), iv vv, iv fr, iv (vv &&& (255 : Int32)), iv ((255 : Int32) - (vv &&& (255 : Int32)))] [(.int x3)])) _
      refine XS.sipush X0.here hx rfl (hb hby d11_28) ?_
      refine XS.iand X0.here hx rfl (hb hby d11_31) rfl ?_
      refine XS.iload X0.here hx rfl (hb hby d11_32) rfl ?_
      exact k_
    by_cases hc34_11 : (x3 &&& (255 : Int32)) = ((255 : Int32) - (vv &&& (255 : Int32)))
    · skip
      obtain ⟨fs, hr, hrun, hended, hW, hsame⟩ := X0.leave (v := some (.int (1 : Int32))) (fun h => by rw [Bd.returns] at h; cases h)
      refine ⟨_, _, pre12 _ ?_, hrun, hended, _, _, rfl, ?_, ⟨_, rfl⟩, hW, hsame.mono (by decide) (by decide)⟩
      · show Steps p.tables e below (s₁.setTop (mkF m 34 #[rv ar, iv (3 : Int32), iv vv, iv fr, iv (vv &&& (255 : Int32)), iv ((255 : Int32) - (vv &&& (255 : Int32)))] [(.int ((255 : Int32) - (vv &&& (255 : Int32)))), (.int (x3 &&& (255 : Int32)))])) _
        refine XS.icmpNo X0.here hx rfl (hb hby d11_34) rfl (teq hc34_11).2 ?_
        show Steps p.tables e below (s₁.setTop (mkF m 37 #[rv ar, iv (3 : Int32), iv vv, iv fr, iv (vv &&& (255 : Int32)), iv ((255 : Int32) - (vv &&& (255 : Int32)))] [])) _
        refine XS.iconst X0.here hx rfl (hb hby d11_37) ?_
        refine XS.goto X0.here hx rfl (pc0 := 38) (pc' := 42) rfl (hb hby d11_38) (by decide) (by decide) ?_
        show Steps p.tables e below (s₁.setTop (mkF m 42 #[rv ar, iv (3 : Int32), iv vv, iv fr, iv (vv &&& (255 : Int32)), iv ((255 : Int32) - (vv &&& (255 : Int32)))] [(.int (1 : Int32))])) _
        exact retN X0 hx (t := .boolean) Bd.returns (by simp) (hb hby d11_42) hr
      · show Q_rm_ok4_3 Z _ _ _ _ _ _ _ h0 n0 _ s₁.heap _
        rw [e0]
        exact ⟨(by first | rfl | (simp [*]; done) | (simp_all; done)), N0, rfl⟩
    · skip
      obtain ⟨fs, hr, hrun, hended, hW, hsame⟩ := X0.leave (v := some (.int (0 : Int32))) (fun h => by rw [Bd.returns] at h; cases h)
      refine ⟨_, _, pre12 _ ?_, hrun, hended, _, _, rfl, ?_, ⟨_, rfl⟩, hW, hsame.mono (by decide) (by decide)⟩
      · show Steps p.tables e below (s₁.setTop (mkF m 34 #[rv ar, iv (3 : Int32), iv vv, iv fr, iv (vv &&& (255 : Int32)), iv ((255 : Int32) - (vv &&& (255 : Int32)))] [(.int ((255 : Int32) - (vv &&& (255 : Int32)))), (.int (x3 &&& (255 : Int32)))])) _
        refine XS.icmpYes X0.here hx rfl (pc0 := 34) (pc' := 41) rfl (hb hby d11_34) rfl (feq hc34_11).2 (by decide) (by decide) ?_
        refine XS.iconst X0.here hx rfl (hb hby d11_41) ?_
        show Steps p.tables e below (s₁.setTop (mkF m 42 #[rv ar, iv (3 : Int32), iv vv, iv fr, iv (vv &&& (255 : Int32)), iv ((255 : Int32) - (vv &&& (255 : Int32)))] [(.int (0 : Int32))])) _
        exact retN X0 hx (t := .boolean) Bd.returns (by simp) (hb hby d11_42) hr
      · show Q_rm_ok4_3 Z _ _ _ _ _ _ _ h0 n0 _ s₁.heap _
        rw [e0]
        exact ⟨(by first | rfl | (simp [*]; done) | (simp_all; done)), N0, rfl⟩
theorem pd_4 : parseMethodDescriptor "(J)V" = some ⟨[.long], none⟩ := by decide +kernel
theorem pd_1 : parseMethodDescriptor "()[B" = some ⟨[], some (.array .byte)⟩ := by decide +kernel
theorem pd_8 : parseMethodDescriptor "([BIII)Z" = some ⟨[(.array .byte), .int, .int, .int], some .boolean⟩ := by decide +kernel
theorem ef_rm0 (m : MethodId) (x0 : Int32) (x1 : Int32) (x2 : Int32) (x3 : Int32) (x4 : Int32) (x5 : Int32) : entryFrame m #[(.int x0), (.int x1), (.int x2), (.int x3), (.int x4), (.int x5)] maxLocals = mkF m 0 #[iv x0, iv x1, iv x2, iv x3, iv x4, iv x5, .unset, .unset, .unset, .unset, .unset, .unset] [] := by first | (simp [entryFrame, mkF, argsToLocals, Value.category, maxLocals]; done) | rfl
def Q_rm0 (Z : State) (p0_0 : Int32) (p0_1 : Int32) (p0_2 : Int32) (p0_3 : Int32) (p0_4 : Int32) (p0_5 : Int32) (h0 : Heap) (n0 : Nat) (v : Option Value) (h : Heap) (L : List Loc) : Prop := v = some (.int (1 : Int32)) ∧ Fr n0 L ∧ Keep h0 h []
set_option maxRecDepth 65536 in
set_option maxHeartbeats 40000000 in
theorem rm0 (l : Launch) (Z : State) (a0 : Array Value) (hw : ∀ d ∈ tables_1, d.before a0 Z = true) (ws : List Jvm.Cond) (p0_0 : Int32) (p0_1 : Int32) (p0_2 : Int32) (p0_3 : Int32) (p0_4 : Int32) (p0_5 : Int32) (h0 : Heap) (n0 : Nat) (Z0 : n0 ≤ h0.size) :
    MetFree l x (head1 (Jvm.Cond.code x code maxLocals ret :: ws) room_1) (fun a U => a = #[(.int p0_0), (.int p0_1), (.int p0_2), (.int p0_3), (.int p0_4), (.int p0_5)] ∧ Z.Warmed39 U.vm ∧ U.heap = h0) (fun _ _ _ _ _ => True) (fun _ U o U' => ∃ v L, o = .returned v ∧ Q_rm0 Z p0_0 p0_1 p0_2 p0_3 p0_4 p0_5 h0 n0 v U'.heap L ∧ FrameEnd U o U' L room_1.cells room_1.slots) := by
  refine MetFree.of_bodySF (plainFor_of_name pn_com_example_dido_dido_keys_KeyWriterInvertPinLaw) hisR ?_
  intro p e s m args below meth c s₁ Bd hml0 hP hK
  obtain ⟨rfl, hZ, hh⟩ := hP
  have hx := Bd.exec
  have hby := Bd.bytes
  have hml : c.maxLocals = 12 := hml0
  have hown : s.vm.findClass "com/example/dido/dido/keys/KeyWriterInvertPinLaw" = some m.cls := findClass_of_methodNamed Bd.named
  have hnm := (name_of_methodNamed Bd.named Bd.method).1
  have X0 : Stand p l e room_1 s m #[(.int p0_0), (.int p0_1), (.int p0_2), (.int p0_3), (.int p0_4), (.int p0_5)] below meth c s₁ [] 0 0 := Stand.of_body Bd
  have e0 : s₁.heap = h0 := by rw [← hh, Bd.state]; rfl
  have N0 := Fr.nil n0
  have pre0 : ∀ t, Steps p.tables e below (s₁.setTop (mkF m 0 #[iv p0_0, iv p0_1, iv p0_2, iv p0_3, iv p0_4, iv p0_5, .unset, .unset, .unset, .unset, .unset, .unset] [])) t → Steps p.tables e below (s₁.setTop (entryFrame m #[(.int p0_0), (.int p0_1), (.int p0_2), (.int p0_3), (.int p0_4), (.int p0_5)] maxLocals)) t := fun t k => castTop (ef_rm0 m p0_0 p0_1 p0_2 p0_3 p0_4 p0_5) k
  have wo0 := hw _ (List.mem_of_getElem? (i := 0) rfl)
  have wo1 := hw _ (List.mem_of_getElem? (i := 1) rfl)
  have wo2 := hw _ (List.mem_of_getElem? (i := 2) rfl)
  have wo3 := hw _ (List.mem_of_getElem? (i := 3) rfl)
  have wo4 := hw _ (List.mem_of_getElem? (i := 4) rfl)
  have wo5 := hw _ (List.mem_of_getElem? (i := 5) rfl)
  have wo6 := hw _ (List.mem_of_getElem? (i := 6) rfl)
  have wo17 := hw _ (List.mem_of_getElem? (i := 17) rfl)
  have wo18 := hw _ (List.mem_of_getElem? (i := 18) rfl)
  have wo19 := hw _ (List.mem_of_getElem? (i := 19) rfl)
  have wo20 := hw _ (List.mem_of_getElem? (i := 20) rfl)
  have wo21 := hw _ (List.mem_of_getElem? (i := 21) rfl)
  have wo22 := hw _ (List.mem_of_getElem? (i := 22) rfl)
  have wo28 := hw _ (List.mem_of_getElem? (i := 28) rfl)
  have wo43 := hw _ (List.mem_of_getElem? (i := 43) rfl)
  have wo44 := hw _ (List.mem_of_getElem? (i := 44) rfl)
  have wo45 := hw _ (List.mem_of_getElem? (i := 45) rfl)
  have wo46 := hw _ (List.mem_of_getElem? (i := 46) rfl)
  have wo47 := hw _ (List.mem_of_getElem? (i := 47) rfl)
  have wo48 := hw _ (List.mem_of_getElem? (i := 48) rfl)
  have wo49 := hw _ (List.mem_of_getElem? (i := 49) rfl)
  have wo50 := hw _ (List.mem_of_getElem? (i := 50) rfl)
  have wo51 := hw _ (List.mem_of_getElem? (i := 51) rfl)
  have wo52 := hw _ (List.mem_of_getElem? (i := 52) rfl)
  have wo53 := hw _ (List.mem_of_getElem? (i := 53) rfl)
  have wo54 := hw _ (List.mem_of_getElem? (i := 54) rfl)
  have wo55 := hw _ (List.mem_of_getElem? (i := 55) rfl)
  have wo56 := hw _ (List.mem_of_getElem? (i := 56) rfl)
  obtain ⟨nn, h_nn⟩ : ∃ z : Int32, z = ((p0_5 &&& (2147483647 : Int32)) % (5 : Int32)) := ⟨_, rfl⟩
  have hnn : 0 ≤ nn.toInt ∧ nn.toInt < 5 := by rw [h_nn]; exact own_mod _ 5 (by decide)
  have pre1 : ∀ t, Steps p.tables e below (s₁.setTop (mkF m 9 #[iv p0_0, iv p0_1, iv p0_2, iv p0_3, iv p0_4, iv p0_5, iv nn, .unset, .unset, .unset, .unset, .unset] [])) t → Steps p.tables e below (s₁.setTop (entryFrame m #[(.int p0_0), (.int p0_1), (.int p0_2), (.int p0_3), (.int p0_4), (.int p0_5)] maxLocals)) t := by
    intro t_ k_
    refine pre0 _ ?_
    show Steps p.tables e below (s₁.setTop (mkF m 0 #[iv p0_0, iv p0_1, iv p0_2, iv p0_3, iv p0_4, iv p0_5, .unset, .unset, .unset, .unset, .unset, .unset] [])) _
    refine XS.iload X0.here hx rfl (hb hby at_0) rfl ?_
    show Steps p.tables e below (s₁.setTop (mkF m 2 #[iv p0_0, iv p0_1, iv p0_2, iv p0_3, iv p0_4, iv p0_5, .unset, .unset, .unset, .unset, .unset, .unset] [(.int p0_5)])) _
    refine X0.ldcInt hx hown (mvT hZ wo0) (g := (mkF m 2 #[iv p0_0, iv p0_1, iv p0_2, iv p0_3, iv p0_4, iv p0_5, .unset, .unset, .unset, .unset, .unset, .unset] [(.int p0_5)])) rfl (hb hby at_2) _ ?_
    show Steps p.tables e below (s₁.setTop (mkF m 4 #[iv p0_0, iv p0_1, iv p0_2, iv p0_3, iv p0_4, iv p0_5, .unset, .unset, .unset, .unset, .unset, .unset] [(.int (2147483647 : Int32)), (.int p0_5)])) _
    refine XS.iand X0.here hx rfl (hb hby at_4) rfl ?_
    refine XS.iconst X0.here hx rfl (hb hby at_5) ?_
    show Steps p.tables e below (s₁.setTop (mkF m 6 #[iv p0_0, iv p0_1, iv p0_2, iv p0_3, iv p0_4, iv p0_5, .unset, .unset, .unset, .unset, .unset, .unset] [(.int (5 : Int32)), (.int (p0_5 &&& (2147483647 : Int32)))])) _
    refine iremM (g := (mkF m 6 #[iv p0_0, iv p0_1, iv p0_2, iv p0_3, iv p0_4, iv p0_5, .unset, .unset, .unset, .unset, .unset, .unset] [(.int (5 : Int32)), (.int (p0_5 &&& (2147483647 : Int32)))])) X0 hx rfl (hb hby at_6) rfl (by decide) ?_
    show Steps p.tables e below (s₁.setTop (mkF m 7 #[iv p0_0, iv p0_1, iv p0_2, iv p0_3, iv p0_4, iv p0_5, .unset, .unset, .unset, .unset, .unset, .unset] [(.int ((p0_5 &&& (2147483647 : Int32)) % (5 : Int32)))])) _
    refine XS.istore X0.here hx rfl (hb hby at_7) rfl (l' := #[iv p0_0, iv p0_1, iv p0_2, iv p0_3, iv p0_4, iv p0_5, iv ((p0_5 &&& (2147483647 : Int32)) % (5 : Int32)), .unset, .unset, .unset, .unset, .unset]) rfl ?_
    show Steps p.tables e below (s₁.setTop (mkF m 9 #[iv p0_0, iv p0_1, iv p0_2, iv p0_3, iv p0_4, iv p0_5, iv ((p0_5 &&& (2147483647 : Int32)) % (5 : Int32)), .unset, .unset, .unset, .unset, .unset] [])) _
    rw [← h_nn]
    show Steps p.tables e below (s₁.setTop (mkF m 9 #[iv p0_0, iv p0_1, iv p0_2, iv p0_3, iv p0_4, iv p0_5, iv nn, .unset, .unset, .unset, .unset, .unset] [])) _
    exact k_
  have hx_2 : nn = (0 : Int32) ∨ nn = (1 : Int32) ∨ nn = (2 : Int32) ∨ nn = (3 : Int32) ∨ nn = (4 : Int32) := own_lt5 nn hnn
  rcases hx_2 with rfl | rfl | rfl | rfl | rfl
  · skip
    obtain ⟨cp, h_cp⟩ : ∃ z : Int32, z = (((p0_5.toUInt32 >>> ((8 : Int32) &&& 31).toUInt32).toInt32) &&& (7 : Int32)) := ⟨_, rfl⟩
    have hcp : 0 ≤ cp.toInt ∧ cp.toInt < 8 := by rw [h_cp]; exact own_cp _
    obtain ⟨T3, h3, X3, e3, E3, A3, D3, -, st3⟩ := newO X0 hx hZ hown wo1 wo2 wo3 e0 (g := (mkF m 32 #[iv p0_0, iv p0_1, iv p0_2, iv p0_3, iv p0_4, iv p0_5, iv (0 : Int32), .val (.long (cp.toInt64)), .second, iv ((p0_4 &&& (2147483647 : Int32)) % (1 : Int32)), .unset, .unset] [])) rfl (hb hby at_32) (by decide) (by decide)
    obtain ⟨b3, gg3⟩ : ∃ z, z = h0.size := ⟨_, rfl⟩
    rw [← gg3] at A3 D3 st3
    have g4 : n0 ≤ b3 := Nat.le_trans Z0 (Nat.le_of_eq gg3.symm)
    have bz5 : h0.size ≤ b3 := Nat.le_trans (Keep.refl h0 []).1 (Nat.le_of_eq gg3.symm)
    have K6 : Keep h0 h3 [] := (Keep.refl h0 []).ext E3
    have f7 : Fld Z h3 b3 "com/example/dido/dido/keys/KeyWriter" "bytes" "[B" .null := D3 (Or.inl wo17) (ty := (.array .byte)) (by decide)
    have f8 : Fld Z h3 b3 "com/example/dido/dido/keys/KeyWriter" "size" "I" (.int (0 : Int32)) := D3 (Or.inl wo28) (ty := .int) (by decide)
    have f10 := (Nat.le_trans Z0 E3.1)
    obtain ⟨_, _, ⟨T9, L9, k9, n9⟩, -, X9, ⟨Lc9, hQ9, l9, y9, z9⟩, st9⟩ := X3.specialBack hx (y := MN1) rfl hown (mvT hZ wo4) (mvT hZ wo5) (mvT hZ wo6) (by decide) (backOf (W := 1) (rm1 l Z a0 hw [] b3 cp h3 n0 f10 A3 g4 f7 f8 (hcp : 0 ≤ cp.toInt ∧ cp.toInt < 8)) hZ wo6 wo3 (by decide) (by decide)) (g := (mkF m 38 #[iv p0_0, iv p0_1, iv p0_2, iv p0_3, iv p0_4, iv p0_5, iv (0 : Int32), .val (.long (cp.toInt64)), .second, iv ((p0_4 &&& (2147483647 : Int32)) % (1 : Int32)), .unset, .unset] [(.long (cp.toInt64)), (.ref b3), (.ref b3)])) rfl (by rw [hml]; rfl) (Steps.refl _) (a := b3) (argsL := [(.long (cp.toInt64))]) (rest := [(.ref b3)]) (lenOf pd_4 rfl) rfl (by show 2 * 0 + _ ≤ _; exact Nat.le_of_eq rfl) (hb hby at_38) (fun _ _ => ⟨rfl, e3, (by decide : 1 + 1 ≤ _), (by decide : 2 + 7 ≤ _)⟩)
    dsimp only [Pt.U, Pt.locs, Pt.cells, Pt.slots] at X9 l9 y9 z9 st9 hQ9
    rw [l9, y9, z9] at X9
    obtain ⟨ar_9, rfl, N9q, K9q, hq9_0, hq9_1, hq9_2, hq9_3⟩ := hQ9
    have N11 := Fr.app N0 N9q
    have ne12 : b3 ≠ ar_9 := Nat.ne_of_lt (Nat.lt_of_lt_of_le A3.lt hq9_0)
    have g13 : n0 ≤ ar_9 := Nat.le_trans f10 hq9_0
    have bz14 : h0.size ≤ ar_9 := Nat.le_trans (K6).1 hq9_0
    have K15 : Keep h0 T9.heap [] := (K6).trans K9q (allS (P := fun x => x ∈ [] ∨ h0.size ≤ x) (Or.inr bz5) all0)
    obtain ⟨fr, h_fr⟩ : ∃ z : Int32, z = ((p0_4 &&& (2147483647 : Int32)) % (1 : Int32)) := ⟨_, rfl⟩
    have hfr : 0 ≤ fr.toInt ∧ fr.toInt < 1 := by rw [h_fr]; exact own_mod _ 1 (by decide)
    have pre16 : ∀ t, Steps p.tables e below (T9.setTop (mkF m 93 #[iv p0_0, iv p0_1, iv p0_2, iv p0_3, iv p0_4, iv p0_5, iv (0 : Int32), .val (.long (cp.toInt64)), .second, iv fr, rv b3, .unset] [(.ref b3)])) t → Steps p.tables e below (s₁.setTop (entryFrame m #[(.int p0_0), (.int p0_1), (.int p0_2), (.int p0_3), (.int p0_4), (.int p0_5)] maxLocals)) t := by
      intro t_ k_
      refine pre1 _ ?_
      show Steps p.tables e below (s₁.setTop (mkF m 9 #[iv p0_0, iv p0_1, iv p0_2, iv p0_3, iv p0_4, iv p0_5, iv (0 : Int32), .unset, .unset, .unset, .unset, .unset] [])) _
      refine XS.iload X0.here hx rfl (hb hby at_9) rfl ?_
      refine XS.bipush X0.here hx rfl (hb hby at_11) ?_
      refine XS.iushr X0.here hx rfl (hb hby at_13) rfl ?_
      refine XS.bipush X0.here hx rfl (hb hby at_14) ?_
      show Steps p.tables e below (s₁.setTop (mkF m 16 #[iv p0_0, iv p0_1, iv p0_2, iv p0_3, iv p0_4, iv p0_5, iv (0 : Int32), .unset, .unset, .unset, .unset, .unset] [(.int (7 : Int32)), (.int ((p0_5.toUInt32 >>> ((8 : Int32) &&& 31).toUInt32).toInt32))])) _
      refine XS.iand X0.here hx rfl (hb hby at_16) rfl ?_
      show Steps p.tables e below (s₁.setTop (mkF m 17 #[iv p0_0, iv p0_1, iv p0_2, iv p0_3, iv p0_4, iv p0_5, iv (0 : Int32), .unset, .unset, .unset, .unset, .unset] [(.int (((p0_5.toUInt32 >>> ((8 : Int32) &&& 31).toUInt32).toInt32) &&& (7 : Int32)))])) _
      rw [← h_cp]
      show Steps p.tables e below (s₁.setTop (mkF m 17 #[iv p0_0, iv p0_1, iv p0_2, iv p0_3, iv p0_4, iv p0_5, iv (0 : Int32), .unset, .unset, .unset, .unset, .unset] [(.int cp)])) _
      show Steps p.tables e below (s₁.setTop (mkF m 17 #[iv p0_0, iv p0_1, iv p0_2, iv p0_3, iv p0_4, iv p0_5, iv (0 : Int32), .unset, .unset, .unset, .unset, .unset] [(.int cp)])) _
      refine XS.i2l X0.here hx rfl (hb hby at_17) rfl ?_
      show Steps p.tables e below (s₁.setTop (mkF m 18 #[iv p0_0, iv p0_1, iv p0_2, iv p0_3, iv p0_4, iv p0_5, iv (0 : Int32), .unset, .unset, .unset, .unset, .unset] [(.long (cp.toInt64))])) _
      refine XS.lstore X0.here hx rfl (hb hby at_18) rfl (l' := #[iv p0_0, iv p0_1, iv p0_2, iv p0_3, iv p0_4, iv p0_5, iv (0 : Int32), .val (.long (cp.toInt64)), .second, .unset, .unset, .unset]) rfl ?_
      refine XS.iload X0.here hx rfl (hb hby at_20) rfl ?_
      show Steps p.tables e below (s₁.setTop (mkF m 22 #[iv p0_0, iv p0_1, iv p0_2, iv p0_3, iv p0_4, iv p0_5, iv (0 : Int32), .val (.long (cp.toInt64)), .second, .unset, .unset, .unset] [(.int p0_4)])) _
      refine X0.ldcInt hx hown (mvT hZ wo0) (g := (mkF m 22 #[iv p0_0, iv p0_1, iv p0_2, iv p0_3, iv p0_4, iv p0_5, iv (0 : Int32), .val (.long (cp.toInt64)), .second, .unset, .unset, .unset] [(.int p0_4)])) rfl (hb hby at_22) _ ?_
      show Steps p.tables e below (s₁.setTop (mkF m 24 #[iv p0_0, iv p0_1, iv p0_2, iv p0_3, iv p0_4, iv p0_5, iv (0 : Int32), .val (.long (cp.toInt64)), .second, .unset, .unset, .unset] [(.int (2147483647 : Int32)), (.int p0_4)])) _
      refine XS.iand X0.here hx rfl (hb hby at_24) rfl ?_
      show Steps p.tables e below (s₁.setTop (mkF m 25 #[iv p0_0, iv p0_1, iv p0_2, iv p0_3, iv p0_4, iv p0_5, iv (0 : Int32), .val (.long (cp.toInt64)), .second, .unset, .unset, .unset] [(.int (p0_4 &&& (2147483647 : Int32)))])) _
      refine XS.iload X0.here hx rfl (hb hby at_25) rfl ?_
      refine XS.iconst X0.here hx rfl (hb hby at_27) ?_
      refine XS.iadd X0.here hx rfl (hb hby at_28) rfl ?_
      show Steps p.tables e below (s₁.setTop (mkF m 29 #[iv p0_0, iv p0_1, iv p0_2, iv p0_3, iv p0_4, iv p0_5, iv (0 : Int32), .val (.long (cp.toInt64)), .second, .unset, .unset, .unset] [(.int (1 : Int32)), (.int (p0_4 &&& (2147483647 : Int32)))])) _
      refine iremM (g := (mkF m 29 #[iv p0_0, iv p0_1, iv p0_2, iv p0_3, iv p0_4, iv p0_5, iv (0 : Int32), .val (.long (cp.toInt64)), .second, .unset, .unset, .unset] [(.int (1 : Int32)), (.int (p0_4 &&& (2147483647 : Int32)))])) X0 hx rfl (hb hby at_29) rfl (by decide) ?_
      show Steps p.tables e below (s₁.setTop (mkF m 30 #[iv p0_0, iv p0_1, iv p0_2, iv p0_3, iv p0_4, iv p0_5, iv (0 : Int32), .val (.long (cp.toInt64)), .second, .unset, .unset, .unset] [(.int ((p0_4 &&& (2147483647 : Int32)) % (1 : Int32)))])) _
      refine XS.istore X0.here hx rfl (hb hby at_30) rfl (l' := #[iv p0_0, iv p0_1, iv p0_2, iv p0_3, iv p0_4, iv p0_5, iv (0 : Int32), .val (.long (cp.toInt64)), .second, iv ((p0_4 &&& (2147483647 : Int32)) % (1 : Int32)), .unset, .unset]) rfl ?_
      show Steps p.tables e below (s₁.setTop (mkF m 32 #[iv p0_0, iv p0_1, iv p0_2, iv p0_3, iv p0_4, iv p0_5, iv (0 : Int32), .val (.long (cp.toInt64)), .second, iv ((p0_4 &&& (2147483647 : Int32)) % (1 : Int32)), .unset, .unset] [])) _
      refine st3 _ ?_
      show Steps p.tables e below (T3.setTop (mkF m 35 #[iv p0_0, iv p0_1, iv p0_2, iv p0_3, iv p0_4, iv p0_5, iv (0 : Int32), .val (.long (cp.toInt64)), .second, iv ((p0_4 &&& (2147483647 : Int32)) % (1 : Int32)), .unset, .unset] [(.ref b3)])) _
      refine XS.dup X3.here hx rfl (hb hby at_35) rfl rfl ?_
      refine XS.lload X3.here hx rfl (hb hby at_36) rfl ?_
      show Steps p.tables e below (T3.setTop (mkF m 38 #[iv p0_0, iv p0_1, iv p0_2, iv p0_3, iv p0_4, iv p0_5, iv (0 : Int32), .val (.long (cp.toInt64)), .second, iv ((p0_4 &&& (2147483647 : Int32)) % (1 : Int32)), .unset, .unset] [(.long (cp.toInt64)), (.ref b3), (.ref b3)])) _
      refine st9.trans ?_
      show Steps p.tables e below (T9.setTop (mkF m 41 #[iv p0_0, iv p0_1, iv p0_2, iv p0_3, iv p0_4, iv p0_5, iv (0 : Int32), .val (.long (cp.toInt64)), .second, iv ((p0_4 &&& (2147483647 : Int32)) % (1 : Int32)), .unset, .unset] [(.ref b3)])) _
      refine XS.astore X9.here hx rfl (hb hby at_41) rfl rfl (l' := #[iv p0_0, iv p0_1, iv p0_2, iv p0_3, iv p0_4, iv p0_5, iv (0 : Int32), .val (.long (cp.toInt64)), .second, iv ((p0_4 &&& (2147483647 : Int32)) % (1 : Int32)), rv b3, .unset]) rfl ?_
      refine XS.iload X9.here hx rfl (hb hby at_43) rfl ?_
      refine XS.iconst X9.here hx rfl (hb hby at_45) ?_
      show Steps p.tables e below (T9.setTop (mkF m 46 #[iv p0_0, iv p0_1, iv p0_2, iv p0_3, iv p0_4, iv p0_5, iv (0 : Int32), .val (.long (cp.toInt64)), .second, iv ((p0_4 &&& (2147483647 : Int32)) % (1 : Int32)), rv b3, .unset] [(.int (1 : Int32)), (.int (0 : Int32))])) _
      refine XS.icmpYes X9.here hx rfl (pc0 := 46) (pc' := 55) rfl (hb hby at_46) rfl (tlt (by decide : (0 : Int32) < (1 : Int32))).1 (by decide) (by decide) ?_
      refine XS.iload X9.here hx rfl (hb hby at_55) rfl ?_
      refine XS.iconst X9.here hx rfl (hb hby at_57) ?_
      refine XS.icmpYes X9.here hx rfl (pc0 := 58) (pc' := 67) rfl (hb hby at_58) rfl (tlt (by decide : (0 : Int32) < (2 : Int32))).1 (by decide) (by decide) ?_
      show Steps p.tables e below (T9.setTop (mkF m 67 #[iv p0_0, iv p0_1, iv p0_2, iv p0_3, iv p0_4, iv p0_5, iv (0 : Int32), .val (.long (cp.toInt64)), .second, iv ((p0_4 &&& (2147483647 : Int32)) % (1 : Int32)), rv b3, .unset] [])) _
      refine XS.iload X9.here hx rfl (hb hby at_67) rfl ?_
      refine XS.iconst X9.here hx rfl (hb hby at_69) ?_
      refine XS.icmpYes X9.here hx rfl (pc0 := 70) (pc' := 79) rfl (hb hby at_70) rfl (tlt (by decide : (0 : Int32) < (3 : Int32))).1 (by decide) (by decide) ?_
      refine XS.iload X9.here hx rfl (hb hby at_79) rfl ?_
      show Steps p.tables e below (T9.setTop (mkF m 81 #[iv p0_0, iv p0_1, iv p0_2, iv p0_3, iv p0_4, iv p0_5, iv (0 : Int32), .val (.long (cp.toInt64)), .second, iv ((p0_4 &&& (2147483647 : Int32)) % (1 : Int32)), rv b3, .unset] [(.int (0 : Int32))])) _
      refine XS.iconst X9.here hx rfl (hb hby at_81) ?_
      refine XS.icmpYes X9.here hx rfl (pc0 := 82) (pc' := 91) rfl (hb hby at_82) rfl (tlt (by decide : (0 : Int32) < (4 : Int32))).1 (by decide) (by decide) ?_
      refine XS.aload X9.here hx rfl (hb hby at_91) rfl rfl ?_
      show Steps p.tables e below (T9.setTop (mkF m 93 #[iv p0_0, iv p0_1, iv p0_2, iv p0_3, iv p0_4, iv p0_5, iv (0 : Int32), .val (.long (cp.toInt64)), .second, iv ((p0_4 &&& (2147483647 : Int32)) % (1 : Int32)), rv b3, .unset] [(.ref b3)])) _
      rw [← h_fr]
      show Steps p.tables e below (T9.setTop (mkF m 93 #[iv p0_0, iv p0_1, iv p0_2, iv p0_3, iv p0_4, iv p0_5, iv (0 : Int32), .val (.long (cp.toInt64)), .second, iv fr, rv b3, .unset] [(.ref b3)])) _
      exact k_
    have hx_17 : fr = (0 : Int32) := own_lt1 fr hfr
    rcases hx_17 with rfl
    · skip
      have f19 := (Nat.le_trans f10 K9q.1)
      have f20 := (A3.keep K9q)
      obtain ⟨cq18, kq18, q18a, q18b, q18c⟩ := isOf hZ rfl f20
      obtain ⟨_, _, ⟨T18, L18, k18, n18⟩, -, X18, ⟨Lc18, hQ18, l18, y18, z18⟩, st18⟩ := X9.virtualBack hx (y := MN9) (z := MN9) hown (mvT hZ wo43) (mvT hZ wo44) (notFace_of_selects (args := #[]) (mvT hZ wo46)) (mvT hZ wo46) (mvT hZ wo45) (by decide) (backOf (W := 0) (rm_in0_0 l Z a0 hw [] b3 ar_9 cp (T9.heap) n0 f19 g13 ne12 hq9_2 hq9_3 hq9_1 (hcp.1 : (0 : Int32).toInt ≤ cp.toInt)) hZ wo47 wo3 (by decide) (by decide)) q18a q18c (g := (mkF m 95 #[iv p0_0, iv p0_1, iv p0_2, iv p0_3, iv p0_4, iv p0_5, iv (0 : Int32), .val (.long (cp.toInt64)), .second, iv (0 : Int32), rv b3, .unset] [(.int (0 : Int32)), (.ref b3)])) rfl (by rw [hml]; rfl) (Steps.refl _) (argsL := [(.int (0 : Int32))]) (rest := []) (lenOf pd_2 rfl) rfl (by show 2 * 0 + _ ≤ _; exact Nat.le_of_eq rfl) (hb hby at_95) (fun _ _ => ⟨rfl, rfl, (by decide : 2 + 0 ≤ _), (by decide : 9 + 0 ≤ _)⟩)
      dsimp only [Pt.U, Pt.locs, Pt.cells, Pt.slots] at X18 l18 y18 z18 st18 hQ18
      rw [l18, y18, z18] at X18
      obtain ⟨rfl, N18q, K18q, hq18_0⟩ := hQ18
      have N21 := Fr.app N11 N18q
      have K22 : Keep h0 T18.heap [] := (K15).trans K18q (allS (P := fun x => x ∈ [] ∨ h0.size ≤ x) (Or.inr bz14) all0)
      have f23 := (hq9_2.keep K18q (ninS ne12 nin0))
      have f24 := (hq9_3.keep K18q (ninS ne12 nin0))
      have f26 := (Nat.le_trans f19 K18q.1)
      have f27 := (f20.keep K18q)
      obtain ⟨cq25, kq25, q25a, q25b, q25c⟩ := isOf hZ rfl f27
      obtain ⟨_, _, ⟨T25, L25, k25, n25⟩, -, X25, ⟨Lc25, hQ25, l25, y25, z25⟩, st25⟩ := X18.virtualBack hx (y := MN10) (z := MN10) hown (mvT hZ wo48) (mvT hZ wo49) (notFace_of_selects (args := #[]) (mvT hZ wo51)) (mvT hZ wo51) (mvT hZ wo50) (by decide) (backOf (W := 0) (rm_tb0 l Z a0 hw [] b3 ar_9 cp (T18.heap) n0 f26 f23 f24 hq18_0 (hcp.1 : (0 : Int32).toInt ≤ cp.toInt)) hZ wo52 wo3 (by decide) (by decide)) q25a q25c (g := (mkF m 100 #[iv p0_0, iv p0_1, iv p0_2, iv p0_3, iv p0_4, iv p0_5, iv (0 : Int32), .val (.long (cp.toInt64)), .second, iv (0 : Int32), rv b3, .unset] [(.ref b3)])) rfl (by rw [hml]; rfl) (Steps.refl _) (argsL := []) (rest := []) (lenOf pd_1 rfl) rfl (by show 2 * 0 + _ ≤ _; exact Nat.le_of_eq rfl) (hb hby at_100) (fun _ _ => ⟨rfl, rfl, (by decide : 2 + 1 ≤ _), (by decide : 9 + 0 ≤ _)⟩)
      dsimp only [Pt.U, Pt.locs, Pt.cells, Pt.slots] at X25 l25 y25 z25 st25 hQ25
      rw [l25, y25, z25] at X25
      obtain ⟨b_25, rfl, N25q, K25q, hq25_0⟩ := hQ25
      have N28 := Fr.app N21 N25q
      have K29 : Keep h0 T25.heap [] := (K22).trans K25q all0
      obtain ⟨kk30, cl30, Ar30, qq30, Sz30, Nn30, Hs30, Gf30⟩ := id hq25_0
      obtain ⟨fs, hr, hrun, hended, hW, hsame⟩ := X25.leave (v := some (.int (1 : Int32))) (fun h => by rw [Bd.returns] at h; cases h)
      refine ⟨_, _, pre16 _ ?_, hrun, hended, _, _, rfl, ?_, ⟨_, rfl⟩, hW, hsame.mono (by decide) (by decide)⟩
      · show Steps p.tables e below (T9.setTop (mkF m 93 #[iv p0_0, iv p0_1, iv p0_2, iv p0_3, iv p0_4, iv p0_5, iv (0 : Int32), .val (.long (cp.toInt64)), .second, iv (0 : Int32), rv b3, .unset] [(.ref b3)])) _
        refine XS.iload X9.here hx rfl (hb hby at_93) rfl ?_
        show Steps p.tables e below (T9.setTop (mkF m 95 #[iv p0_0, iv p0_1, iv p0_2, iv p0_3, iv p0_4, iv p0_5, iv (0 : Int32), .val (.long (cp.toInt64)), .second, iv (0 : Int32), rv b3, .unset] [(.int (0 : Int32)), (.ref b3)])) _
        refine st18.trans ?_
        show Steps p.tables e below (T18.setTop (mkF m 98 #[iv p0_0, iv p0_1, iv p0_2, iv p0_3, iv p0_4, iv p0_5, iv (0 : Int32), .val (.long (cp.toInt64)), .second, iv (0 : Int32), rv b3, .unset] [])) _
        refine XS.aload X18.here hx rfl (hb hby at_98) rfl rfl ?_
        show Steps p.tables e below (T18.setTop (mkF m 100 #[iv p0_0, iv p0_1, iv p0_2, iv p0_3, iv p0_4, iv p0_5, iv (0 : Int32), .val (.long (cp.toInt64)), .second, iv (0 : Int32), rv b3, .unset] [(.ref b3)])) _
        refine st25.trans ?_
        show Steps p.tables e below (T25.setTop (mkF m 103 #[iv p0_0, iv p0_1, iv p0_2, iv p0_3, iv p0_4, iv p0_5, iv (0 : Int32), .val (.long (cp.toInt64)), .second, iv (0 : Int32), rv b3, .unset] [(.ref b_25)])) _
        refine XS.astore X25.here hx rfl (hb hby at_103) rfl rfl (l' := #[iv p0_0, iv p0_1, iv p0_2, iv p0_3, iv p0_4, iv p0_5, iv (0 : Int32), .val (.long (cp.toInt64)), .second, iv (0 : Int32), rv b3, rv b_25]) rfl ?_
        refine XS.aload X25.here hx rfl (hb hby at_105) rfl rfl ?_
        show Steps p.tables e below (T25.setTop (mkF m 107 #[iv p0_0, iv p0_1, iv p0_2, iv p0_3, iv p0_4, iv p0_5, iv (0 : Int32), .val (.long (cp.toInt64)), .second, iv (0 : Int32), rv b3, rv b_25] [(.ref b_25)])) _
        refine X25.arraylength hx (Ar30.1) (State.isArrayOf_alike hZ.alike Ar30.2.1) (g := (mkF m 107 #[iv p0_0, iv p0_1, iv p0_2, iv p0_3, iv p0_4, iv p0_5, iv (0 : Int32), .val (.long (cp.toInt64)), .second, iv (0 : Int32), rv b3, rv b_25] [(.ref b_25)])) rfl rfl (hb hby at_107) _ ?_
        rw [len_of Sz30 Nn30]
        show Steps p.tables e below (T25.setTop (mkF m 108 #[iv p0_0, iv p0_1, iv p0_2, iv p0_3, iv p0_4, iv p0_5, iv (0 : Int32), .val (.long (cp.toInt64)), .second, iv (0 : Int32), rv b3, rv b_25] [(.int (0 : Int32))])) _
        refine XS.iload X25.here hx rfl (hb hby at_108) rfl ?_
        show Steps p.tables e below (T25.setTop (mkF m 110 #[iv p0_0, iv p0_1, iv p0_2, iv p0_3, iv p0_4, iv p0_5, iv (0 : Int32), .val (.long (cp.toInt64)), .second, iv (0 : Int32), rv b3, rv b_25] [(.int (0 : Int32)), (.int (0 : Int32))])) _
        refine XS.icmpYes X25.here hx rfl (pc0 := 110) (pc' := 115) rfl (hb hby at_110) rfl (teq (by decide : (0 : Int32) = (0 : Int32))).1 (by decide) (by decide) ?_
        refine XS.iload X25.here hx rfl (hb hby at_115) rfl ?_
        refine XS.iconst X25.here hx rfl (hb hby at_117) ?_
        refine XS.icmpYes X25.here hx rfl (pc0 := 118) (pc' := 133) rfl (hb hby at_118) rfl (tlt (by decide : (0 : Int32) < (1 : Int32))).1 (by decide) (by decide) ?_
        show Steps p.tables e below (T25.setTop (mkF m 133 #[iv p0_0, iv p0_1, iv p0_2, iv p0_3, iv p0_4, iv p0_5, iv (0 : Int32), .val (.long (cp.toInt64)), .second, iv (0 : Int32), rv b3, rv b_25] [])) _
        refine XS.iload X25.here hx rfl (hb hby at_133) rfl ?_
        refine XS.iconst X25.here hx rfl (hb hby at_135) ?_
        refine XS.icmpYes X25.here hx rfl (pc0 := 136) (pc' := 151) rfl (hb hby at_136) rfl (tlt (by decide : (0 : Int32) < (2 : Int32))).1 (by decide) (by decide) ?_
        refine XS.iload X25.here hx rfl (hb hby at_151) rfl ?_
        show Steps p.tables e below (T25.setTop (mkF m 153 #[iv p0_0, iv p0_1, iv p0_2, iv p0_3, iv p0_4, iv p0_5, iv (0 : Int32), .val (.long (cp.toInt64)), .second, iv (0 : Int32), rv b3, rv b_25] [(.int (0 : Int32))])) _
        refine XS.iconst X25.here hx rfl (hb hby at_153) ?_
        refine XS.icmpYes X25.here hx rfl (pc0 := 154) (pc' := 169) rfl (hb hby at_154) rfl (tlt (by decide : (0 : Int32) < (3 : Int32))).1 (by decide) (by decide) ?_
        refine XS.iload X25.here hx rfl (hb hby at_169) rfl ?_
        refine XS.iconst X25.here hx rfl (hb hby at_171) ?_
        show Steps p.tables e below (T25.setTop (mkF m 172 #[iv p0_0, iv p0_1, iv p0_2, iv p0_3, iv p0_4, iv p0_5, iv (0 : Int32), .val (.long (cp.toInt64)), .second, iv (0 : Int32), rv b3, rv b_25] [(.int (4 : Int32)), (.int (0 : Int32))])) _
        refine XS.icmpYes X25.here hx rfl (pc0 := 172) (pc' := 187) rfl (hb hby at_172) rfl (tlt (by decide : (0 : Int32) < (4 : Int32))).1 (by decide) (by decide) ?_
        refine XS.iconst X25.here hx rfl (hb hby at_187) ?_
        refine XS.goto X25.here hx rfl (pc0 := 188) (pc' := 192) rfl (hb hby at_188) (by decide) (by decide) ?_
        show Steps p.tables e below (T25.setTop (mkF m 192 #[iv p0_0, iv p0_1, iv p0_2, iv p0_3, iv p0_4, iv p0_5, iv (0 : Int32), .val (.long (cp.toInt64)), .second, iv (0 : Int32), rv b3, rv b_25] [(.int (1 : Int32))])) _
        exact retN X25 hx (t := .boolean) Bd.returns (by simp) (hb hby at_192) hr
      · show Q_rm0 Z _ _ _ _ _ _ h0 n0 _ T25.heap _
        exact ⟨rfl, N28, (K29)⟩
  · skip
    obtain ⟨cp, h_cp⟩ : ∃ z : Int32, z = (((p0_5.toUInt32 >>> ((8 : Int32) &&& 31).toUInt32).toInt32) &&& (7 : Int32)) := ⟨_, rfl⟩
    have hcp : 0 ≤ cp.toInt ∧ cp.toInt < 8 := by rw [h_cp]; exact own_cp _
    obtain ⟨T31, h31, X31, e31, E31, A31, D31, -, st31⟩ := newO X0 hx hZ hown wo1 wo2 wo3 e0 (g := (mkF m 32 #[iv p0_0, iv p0_1, iv p0_2, iv p0_3, iv p0_4, iv p0_5, iv (1 : Int32), .val (.long (cp.toInt64)), .second, iv ((p0_4 &&& (2147483647 : Int32)) % (2 : Int32)), .unset, .unset] [])) rfl (hb hby at_32) (by decide) (by decide)
    obtain ⟨b31, gg31⟩ : ∃ z, z = h0.size := ⟨_, rfl⟩
    rw [← gg31] at A31 D31 st31
    have g32 : n0 ≤ b31 := Nat.le_trans Z0 (Nat.le_of_eq gg31.symm)
    have bz33 : h0.size ≤ b31 := Nat.le_trans (Keep.refl h0 []).1 (Nat.le_of_eq gg31.symm)
    have K34 : Keep h0 h31 [] := (Keep.refl h0 []).ext E31
    have f35 : Fld Z h31 b31 "com/example/dido/dido/keys/KeyWriter" "bytes" "[B" .null := D31 (Or.inl wo17) (ty := (.array .byte)) (by decide)
    have f36 : Fld Z h31 b31 "com/example/dido/dido/keys/KeyWriter" "size" "I" (.int (0 : Int32)) := D31 (Or.inl wo28) (ty := .int) (by decide)
    have f38 := (Nat.le_trans Z0 E31.1)
    obtain ⟨_, _, ⟨T37, L37, k37, n37⟩, -, X37, ⟨Lc37, hQ37, l37, y37, z37⟩, st37⟩ := X31.specialBack hx (y := MN1) rfl hown (mvT hZ wo4) (mvT hZ wo5) (mvT hZ wo6) (by decide) (backOf (W := 1) (rm1 l Z a0 hw [] b31 cp h31 n0 f38 A31 g32 f35 f36 (hcp : 0 ≤ cp.toInt ∧ cp.toInt < 8)) hZ wo6 wo3 (by decide) (by decide)) (g := (mkF m 38 #[iv p0_0, iv p0_1, iv p0_2, iv p0_3, iv p0_4, iv p0_5, iv (1 : Int32), .val (.long (cp.toInt64)), .second, iv ((p0_4 &&& (2147483647 : Int32)) % (2 : Int32)), .unset, .unset] [(.long (cp.toInt64)), (.ref b31), (.ref b31)])) rfl (by rw [hml]; rfl) (Steps.refl _) (a := b31) (argsL := [(.long (cp.toInt64))]) (rest := [(.ref b31)]) (lenOf pd_4 rfl) rfl (by show 2 * 0 + _ ≤ _; exact Nat.le_of_eq rfl) (hb hby at_38) (fun _ _ => ⟨rfl, e31, (by decide : 1 + 1 ≤ _), (by decide : 2 + 7 ≤ _)⟩)
    dsimp only [Pt.U, Pt.locs, Pt.cells, Pt.slots] at X37 l37 y37 z37 st37 hQ37
    rw [l37, y37, z37] at X37
    obtain ⟨ar_37, rfl, N37q, K37q, hq37_0, hq37_1, hq37_2, hq37_3⟩ := hQ37
    have N39 := Fr.app N0 N37q
    have ne40 : b31 ≠ ar_37 := Nat.ne_of_lt (Nat.lt_of_lt_of_le A31.lt hq37_0)
    have g41 : n0 ≤ ar_37 := Nat.le_trans f38 hq37_0
    have bz42 : h0.size ≤ ar_37 := Nat.le_trans (K34).1 hq37_0
    have K43 : Keep h0 T37.heap [] := (K34).trans K37q (allS (P := fun x => x ∈ [] ∨ h0.size ≤ x) (Or.inr bz33) all0)
    have f44 := (A31.keep K37q)
    have f46 := (Nat.le_trans f38 K37q.1)
    obtain ⟨cq45, kq45, q45a, q45b, q45c⟩ := isOf hZ rfl f44
    obtain ⟨_, _, ⟨T45, L45, k45, n45⟩, -, X45, ⟨Lc45, hQ45, l45, y45, z45⟩, st45⟩ := X37.virtualBack hx (y := MN4) (z := MN4) hown (mvT hZ wo18) (mvT hZ wo19) (notFace_of_selects (args := #[]) (mvT hZ wo21)) (mvT hZ wo21) (mvT hZ wo20) (by decide) (backOf (W := 0) (rm_wr0 l Z a0 hw [] b31 p0_0 ar_37 cp (T37.heap) n0 f46 f44 g32 g41 ne40 hq37_2 hq37_3 hq37_1 (hcp.1 : (0 : Int32).toInt ≤ cp.toInt) ((Int.lt_trans hcp.2 (by decide)) : cp.toInt < 9)) hZ wo22 wo3 (by decide) (by decide)) q45a q45c (g := (mkF m 52 #[iv p0_0, iv p0_1, iv p0_2, iv p0_3, iv p0_4, iv p0_5, iv (1 : Int32), .val (.long (cp.toInt64)), .second, iv ((p0_4 &&& (2147483647 : Int32)) % (2 : Int32)), rv b31, .unset] [(.int p0_0), (.ref b31)])) rfl (by rw [hml]; rfl) (Steps.refl _) (argsL := [(.int p0_0)]) (rest := []) (lenOf pd_2 rfl) rfl (by show 2 * 0 + _ ≤ _; exact Nat.le_of_eq rfl) (hb hby at_52) (fun _ _ => ⟨rfl, rfl, (by decide : 2 + 1 ≤ _), (by decide : 9 + 1 ≤ _)⟩)
    dsimp only [Pt.U, Pt.locs, Pt.cells, Pt.slots] at X45 l45 y45 z45 st45 hQ45
    rw [l45, y45, z45] at X45
    obtain ⟨ar2_45, ln2_45, rfl, N45q, K45q, hq45_0, hq45_1, hq45_2, hq45_3, hq45_4, hq45_5, hq45_6, hq45_7⟩ := hQ45
    have N47 := Fr.app N39 N45q
    have K48 : Keep h0 T45.heap [] := (K43).trans K45q (allS (P := fun x => x ∈ [] ∨ h0.size ≤ x) (Or.inr bz33) (allS (P := fun x => x ∈ [] ∨ h0.size ≤ x) (Or.inr bz42) all0))
    have bz49 : h0.size ≤ ar2_45 := hq45_0.elim (fun q => q ▸ bz42) (fun q => Nat.le_trans (K43).1 q)
    obtain ⟨fr, h_fr⟩ : ∃ z : Int32, z = ((p0_4 &&& (2147483647 : Int32)) % (2 : Int32)) := ⟨_, rfl⟩
    have hfr : 0 ≤ fr.toInt ∧ fr.toInt < 2 := by rw [h_fr]; exact own_mod _ 2 (by decide)
    have pre50 : ∀ t, Steps p.tables e below (T45.setTop (mkF m 93 #[iv p0_0, iv p0_1, iv p0_2, iv p0_3, iv p0_4, iv p0_5, iv (1 : Int32), .val (.long (cp.toInt64)), .second, iv fr, rv b31, .unset] [(.ref b31)])) t → Steps p.tables e below (s₁.setTop (entryFrame m #[(.int p0_0), (.int p0_1), (.int p0_2), (.int p0_3), (.int p0_4), (.int p0_5)] maxLocals)) t := by
      intro t_ k_
      refine pre1 _ ?_
      show Steps p.tables e below (s₁.setTop (mkF m 9 #[iv p0_0, iv p0_1, iv p0_2, iv p0_3, iv p0_4, iv p0_5, iv (1 : Int32), .unset, .unset, .unset, .unset, .unset] [])) _
      refine XS.iload X0.here hx rfl (hb hby at_9) rfl ?_
      refine XS.bipush X0.here hx rfl (hb hby at_11) ?_
      refine XS.iushr X0.here hx rfl (hb hby at_13) rfl ?_
      refine XS.bipush X0.here hx rfl (hb hby at_14) ?_
      show Steps p.tables e below (s₁.setTop (mkF m 16 #[iv p0_0, iv p0_1, iv p0_2, iv p0_3, iv p0_4, iv p0_5, iv (1 : Int32), .unset, .unset, .unset, .unset, .unset] [(.int (7 : Int32)), (.int ((p0_5.toUInt32 >>> ((8 : Int32) &&& 31).toUInt32).toInt32))])) _
      refine XS.iand X0.here hx rfl (hb hby at_16) rfl ?_
      show Steps p.tables e below (s₁.setTop (mkF m 17 #[iv p0_0, iv p0_1, iv p0_2, iv p0_3, iv p0_4, iv p0_5, iv (1 : Int32), .unset, .unset, .unset, .unset, .unset] [(.int (((p0_5.toUInt32 >>> ((8 : Int32) &&& 31).toUInt32).toInt32) &&& (7 : Int32)))])) _
      rw [← h_cp]
      show Steps p.tables e below (s₁.setTop (mkF m 17 #[iv p0_0, iv p0_1, iv p0_2, iv p0_3, iv p0_4, iv p0_5, iv (1 : Int32), .unset, .unset, .unset, .unset, .unset] [(.int cp)])) _
      show Steps p.tables e below (s₁.setTop (mkF m 17 #[iv p0_0, iv p0_1, iv p0_2, iv p0_3, iv p0_4, iv p0_5, iv (1 : Int32), .unset, .unset, .unset, .unset, .unset] [(.int cp)])) _
      refine XS.i2l X0.here hx rfl (hb hby at_17) rfl ?_
      show Steps p.tables e below (s₁.setTop (mkF m 18 #[iv p0_0, iv p0_1, iv p0_2, iv p0_3, iv p0_4, iv p0_5, iv (1 : Int32), .unset, .unset, .unset, .unset, .unset] [(.long (cp.toInt64))])) _
      refine XS.lstore X0.here hx rfl (hb hby at_18) rfl (l' := #[iv p0_0, iv p0_1, iv p0_2, iv p0_3, iv p0_4, iv p0_5, iv (1 : Int32), .val (.long (cp.toInt64)), .second, .unset, .unset, .unset]) rfl ?_
      refine XS.iload X0.here hx rfl (hb hby at_20) rfl ?_
      show Steps p.tables e below (s₁.setTop (mkF m 22 #[iv p0_0, iv p0_1, iv p0_2, iv p0_3, iv p0_4, iv p0_5, iv (1 : Int32), .val (.long (cp.toInt64)), .second, .unset, .unset, .unset] [(.int p0_4)])) _
      refine X0.ldcInt hx hown (mvT hZ wo0) (g := (mkF m 22 #[iv p0_0, iv p0_1, iv p0_2, iv p0_3, iv p0_4, iv p0_5, iv (1 : Int32), .val (.long (cp.toInt64)), .second, .unset, .unset, .unset] [(.int p0_4)])) rfl (hb hby at_22) _ ?_
      show Steps p.tables e below (s₁.setTop (mkF m 24 #[iv p0_0, iv p0_1, iv p0_2, iv p0_3, iv p0_4, iv p0_5, iv (1 : Int32), .val (.long (cp.toInt64)), .second, .unset, .unset, .unset] [(.int (2147483647 : Int32)), (.int p0_4)])) _
      refine XS.iand X0.here hx rfl (hb hby at_24) rfl ?_
      show Steps p.tables e below (s₁.setTop (mkF m 25 #[iv p0_0, iv p0_1, iv p0_2, iv p0_3, iv p0_4, iv p0_5, iv (1 : Int32), .val (.long (cp.toInt64)), .second, .unset, .unset, .unset] [(.int (p0_4 &&& (2147483647 : Int32)))])) _
      refine XS.iload X0.here hx rfl (hb hby at_25) rfl ?_
      refine XS.iconst X0.here hx rfl (hb hby at_27) ?_
      refine XS.iadd X0.here hx rfl (hb hby at_28) rfl ?_
      show Steps p.tables e below (s₁.setTop (mkF m 29 #[iv p0_0, iv p0_1, iv p0_2, iv p0_3, iv p0_4, iv p0_5, iv (1 : Int32), .val (.long (cp.toInt64)), .second, .unset, .unset, .unset] [(.int (2 : Int32)), (.int (p0_4 &&& (2147483647 : Int32)))])) _
      refine iremM (g := (mkF m 29 #[iv p0_0, iv p0_1, iv p0_2, iv p0_3, iv p0_4, iv p0_5, iv (1 : Int32), .val (.long (cp.toInt64)), .second, .unset, .unset, .unset] [(.int (2 : Int32)), (.int (p0_4 &&& (2147483647 : Int32)))])) X0 hx rfl (hb hby at_29) rfl (by decide) ?_
      show Steps p.tables e below (s₁.setTop (mkF m 30 #[iv p0_0, iv p0_1, iv p0_2, iv p0_3, iv p0_4, iv p0_5, iv (1 : Int32), .val (.long (cp.toInt64)), .second, .unset, .unset, .unset] [(.int ((p0_4 &&& (2147483647 : Int32)) % (2 : Int32)))])) _
      refine XS.istore X0.here hx rfl (hb hby at_30) rfl (l' := #[iv p0_0, iv p0_1, iv p0_2, iv p0_3, iv p0_4, iv p0_5, iv (1 : Int32), .val (.long (cp.toInt64)), .second, iv ((p0_4 &&& (2147483647 : Int32)) % (2 : Int32)), .unset, .unset]) rfl ?_
      show Steps p.tables e below (s₁.setTop (mkF m 32 #[iv p0_0, iv p0_1, iv p0_2, iv p0_3, iv p0_4, iv p0_5, iv (1 : Int32), .val (.long (cp.toInt64)), .second, iv ((p0_4 &&& (2147483647 : Int32)) % (2 : Int32)), .unset, .unset] [])) _
      refine st31 _ ?_
      show Steps p.tables e below (T31.setTop (mkF m 35 #[iv p0_0, iv p0_1, iv p0_2, iv p0_3, iv p0_4, iv p0_5, iv (1 : Int32), .val (.long (cp.toInt64)), .second, iv ((p0_4 &&& (2147483647 : Int32)) % (2 : Int32)), .unset, .unset] [(.ref b31)])) _
      refine XS.dup X31.here hx rfl (hb hby at_35) rfl rfl ?_
      refine XS.lload X31.here hx rfl (hb hby at_36) rfl ?_
      show Steps p.tables e below (T31.setTop (mkF m 38 #[iv p0_0, iv p0_1, iv p0_2, iv p0_3, iv p0_4, iv p0_5, iv (1 : Int32), .val (.long (cp.toInt64)), .second, iv ((p0_4 &&& (2147483647 : Int32)) % (2 : Int32)), .unset, .unset] [(.long (cp.toInt64)), (.ref b31), (.ref b31)])) _
      refine st37.trans ?_
      show Steps p.tables e below (T37.setTop (mkF m 41 #[iv p0_0, iv p0_1, iv p0_2, iv p0_3, iv p0_4, iv p0_5, iv (1 : Int32), .val (.long (cp.toInt64)), .second, iv ((p0_4 &&& (2147483647 : Int32)) % (2 : Int32)), .unset, .unset] [(.ref b31)])) _
      refine XS.astore X37.here hx rfl (hb hby at_41) rfl rfl (l' := #[iv p0_0, iv p0_1, iv p0_2, iv p0_3, iv p0_4, iv p0_5, iv (1 : Int32), .val (.long (cp.toInt64)), .second, iv ((p0_4 &&& (2147483647 : Int32)) % (2 : Int32)), rv b31, .unset]) rfl ?_
      refine XS.iload X37.here hx rfl (hb hby at_43) rfl ?_
      refine XS.iconst X37.here hx rfl (hb hby at_45) ?_
      show Steps p.tables e below (T37.setTop (mkF m 46 #[iv p0_0, iv p0_1, iv p0_2, iv p0_3, iv p0_4, iv p0_5, iv (1 : Int32), .val (.long (cp.toInt64)), .second, iv ((p0_4 &&& (2147483647 : Int32)) % (2 : Int32)), rv b31, .unset] [(.int (1 : Int32)), (.int (1 : Int32))])) _
      refine XS.icmpNo X37.here hx rfl (hb hby at_46) rfl (flt (by decide : ¬ ((1 : Int32) < (1 : Int32)))).1 ?_
      refine XS.aload X37.here hx rfl (hb hby at_49) rfl rfl ?_
      refine XS.iloadN X37.here hx rfl (hb hby at_51) rfl ?_
      show Steps p.tables e below (T37.setTop (mkF m 52 #[iv p0_0, iv p0_1, iv p0_2, iv p0_3, iv p0_4, iv p0_5, iv (1 : Int32), .val (.long (cp.toInt64)), .second, iv ((p0_4 &&& (2147483647 : Int32)) % (2 : Int32)), rv b31, .unset] [(.int p0_0), (.ref b31)])) _
      refine st45.trans ?_
      show Steps p.tables e below (T45.setTop (mkF m 55 #[iv p0_0, iv p0_1, iv p0_2, iv p0_3, iv p0_4, iv p0_5, iv (1 : Int32), .val (.long (cp.toInt64)), .second, iv ((p0_4 &&& (2147483647 : Int32)) % (2 : Int32)), rv b31, .unset] [])) _
      refine XS.iload X45.here hx rfl (hb hby at_55) rfl ?_
      refine XS.iconst X45.here hx rfl (hb hby at_57) ?_
      refine XS.icmpYes X45.here hx rfl (pc0 := 58) (pc' := 67) rfl (hb hby at_58) rfl (tlt (by decide : (1 : Int32) < (2 : Int32))).1 (by decide) (by decide) ?_
      refine XS.iload X45.here hx rfl (hb hby at_67) rfl ?_
      show Steps p.tables e below (T45.setTop (mkF m 69 #[iv p0_0, iv p0_1, iv p0_2, iv p0_3, iv p0_4, iv p0_5, iv (1 : Int32), .val (.long (cp.toInt64)), .second, iv ((p0_4 &&& (2147483647 : Int32)) % (2 : Int32)), rv b31, .unset] [(.int (1 : Int32))])) _
      refine XS.iconst X45.here hx rfl (hb hby at_69) ?_
      refine XS.icmpYes X45.here hx rfl (pc0 := 70) (pc' := 79) rfl (hb hby at_70) rfl (tlt (by decide : (1 : Int32) < (3 : Int32))).1 (by decide) (by decide) ?_
      refine XS.iload X45.here hx rfl (hb hby at_79) rfl ?_
      refine XS.iconst X45.here hx rfl (hb hby at_81) ?_
      show Steps p.tables e below (T45.setTop (mkF m 82 #[iv p0_0, iv p0_1, iv p0_2, iv p0_3, iv p0_4, iv p0_5, iv (1 : Int32), .val (.long (cp.toInt64)), .second, iv ((p0_4 &&& (2147483647 : Int32)) % (2 : Int32)), rv b31, .unset] [(.int (4 : Int32)), (.int (1 : Int32))])) _
      refine XS.icmpYes X45.here hx rfl (pc0 := 82) (pc' := 91) rfl (hb hby at_82) rfl (tlt (by decide : (1 : Int32) < (4 : Int32))).1 (by decide) (by decide) ?_
      refine XS.aload X45.here hx rfl (hb hby at_91) rfl rfl ?_
      show Steps p.tables e below (T45.setTop (mkF m 93 #[iv p0_0, iv p0_1, iv p0_2, iv p0_3, iv p0_4, iv p0_5, iv (1 : Int32), .val (.long (cp.toInt64)), .second, iv ((p0_4 &&& (2147483647 : Int32)) % (2 : Int32)), rv b31, .unset] [(.ref b31)])) _
      rw [← h_fr]
      show Steps p.tables e below (T45.setTop (mkF m 93 #[iv p0_0, iv p0_1, iv p0_2, iv p0_3, iv p0_4, iv p0_5, iv (1 : Int32), .val (.long (cp.toInt64)), .second, iv fr, rv b31, .unset] [(.ref b31)])) _
      exact k_
    have hx_51 : fr = (0 : Int32) ∨ fr = (1 : Int32) := own_lt2 fr hfr
    rcases hx_51 with rfl | rfl
    · skip
      have f53 := (Nat.le_trans f46 K45q.1)
      have f54 := (f44.keep K45q)
      obtain ⟨cq52, kq52, q52a, q52b, q52c⟩ := isOf hZ rfl f54
      obtain ⟨_, _, ⟨T52, L52, k52, n52⟩, -, X52, ⟨Lc52, hQ52, l52, y52, z52⟩, st52⟩ := X45.virtualBack hx (y := MN9) (z := MN9) hown (mvT hZ wo43) (mvT hZ wo44) (notFace_of_selects (args := #[]) (mvT hZ wo46)) (mvT hZ wo46) (mvT hZ wo45) (by decide) (backOf (W := 0) (rm_in1_0 l Z a0 hw [] b31 ar2_45 ln2_45 (nar .byte (p0_0.toInt8.toInt32)) (T45.heap) n0 f53 hq45_1 hq45_2 hq45_3 hq45_4 hq45_5 (hq45_6 : (1 : Int32).toInt ≤ ln2_45.toInt)) hZ wo47 wo3 (by decide) (by decide)) q52a q52c (g := (mkF m 95 #[iv p0_0, iv p0_1, iv p0_2, iv p0_3, iv p0_4, iv p0_5, iv (1 : Int32), .val (.long (cp.toInt64)), .second, iv (0 : Int32), rv b31, .unset] [(.int (0 : Int32)), (.ref b31)])) rfl (by rw [hml]; rfl) (Steps.refl _) (argsL := [(.int (0 : Int32))]) (rest := []) (lenOf pd_2 rfl) rfl (by show 2 * 0 + _ ≤ _; exact Nat.le_of_eq rfl) (hb hby at_95) (fun _ _ => ⟨rfl, rfl, (by decide : 3 + 0 ≤ _), (by decide : 10 + 0 ≤ _)⟩)
      dsimp only [Pt.U, Pt.locs, Pt.cells, Pt.slots] at X52 l52 y52 z52 st52 hQ52
      rw [l52, y52, z52] at X52
      obtain ⟨rfl, N52q, K52q, hq52_0⟩ := hQ52
      have N55 := Fr.app N47 N52q
      have K56 : Keep h0 T52.heap [] := (K48).trans K52q (allS (P := fun x => x ∈ [] ∨ h0.size ≤ x) (Or.inr bz49) all0)
      have f57 := (hq45_3.keep K52q (ninS hq45_2 nin0))
      have f58 := (hq45_4.keep K52q (ninS hq45_2 nin0))
      have f60 := (Nat.le_trans f53 K52q.1)
      have f61 := (f54.keep K52q)
      obtain ⟨cq59, kq59, q59a, q59b, q59c⟩ := isOf hZ rfl f61
      obtain ⟨_, _, ⟨T59, L59, k59, n59⟩, -, X59, ⟨Lc59, hQ59, l59, y59, z59⟩, st59⟩ := X52.virtualBack hx (y := MN10) (z := MN10) hown (mvT hZ wo48) (mvT hZ wo49) (notFace_of_selects (args := #[]) (mvT hZ wo51)) (mvT hZ wo51) (mvT hZ wo50) (by decide) (backOf (W := 0) (rm_tb1 l Z a0 hw [] b31 ar2_45 ln2_45 (nar .byte (((nar .byte (p0_0.toInt8.toInt32)) ^^^ (-1 : Int32)).toInt8.toInt32)) (T52.heap) n0 f60 f57 f58 hq52_0 (hq45_6 : (1 : Int32).toInt ≤ ln2_45.toInt)) hZ wo52 wo3 (by decide) (by decide)) q59a q59c (g := (mkF m 100 #[iv p0_0, iv p0_1, iv p0_2, iv p0_3, iv p0_4, iv p0_5, iv (1 : Int32), .val (.long (cp.toInt64)), .second, iv (0 : Int32), rv b31, .unset] [(.ref b31)])) rfl (by rw [hml]; rfl) (Steps.refl _) (argsL := []) (rest := []) (lenOf pd_1 rfl) rfl (by show 2 * 0 + _ ≤ _; exact Nat.le_of_eq rfl) (hb hby at_100) (fun _ _ => ⟨rfl, rfl, (by decide : 3 + 1 ≤ _), (by decide : 10 + 1 ≤ _)⟩)
      dsimp only [Pt.U, Pt.locs, Pt.cells, Pt.slots] at X59 l59 y59 z59 st59 hQ59
      rw [l59, y59, z59] at X59
      obtain ⟨b_59, rfl, N59q, K59q, hq59_0⟩ := hQ59
      have N62 := Fr.app N55 N59q
      have K63 : Keep h0 T59.heap [] := (K56).trans K59q all0
      obtain ⟨kk64, cl64, Ar64, qq64, Sz64, Nn64, Hs64, Gf64⟩ := id hq59_0
      have f66 := (Nat.le_trans f60 K59q.1)
      obtain ⟨_, _, ⟨T65, L65, k65, n65⟩, -, X65, ⟨Lc65, hQ65, l65, y65, z65⟩, st65⟩ := Jvm.LawKit.callS X59 hx (y := MN11) hown (mvT hZ wo53) (mvT hZ wo54) (mvT hZ wo55) (mvT hZ wo56) (by decide) (backOf (W := 0) (rm_ok1_0 l Z a0 hw [] b_59 p0_0 (0 : Int32) (nar .byte (((nar .byte (p0_0.toInt8.toInt32)) ^^^ (-1 : Int32)).toInt8.toInt32)) (T59.heap) n0 f66 hq59_0) hZ wo56 wo55 (by decide) (by decide)) (g := (mkF m 127 #[iv p0_0, iv p0_1, iv p0_2, iv p0_3, iv p0_4, iv p0_5, iv (1 : Int32), .val (.long (cp.toInt64)), .second, iv (0 : Int32), rv b31, rv b_59] [(.int (0 : Int32)), (.int p0_0), (.int (0 : Int32)), (.ref b_59)])) rfl (by rw [hml]; rfl) (argsL := [(.ref b_59), (.int (0 : Int32)), (.int p0_0), (.int (0 : Int32))]) (rest := []) (lenOf pd_8 rfl) rfl (by show 2 * 0 + _ ≤ _; exact Nat.le_of_eq rfl) (hb hby at_127) (fun _ _ => ⟨rfl, rfl, (by decide : 4 + 0 ≤ _), (by decide : 11 + 0 ≤ _)⟩)
      dsimp only [Pt.U, Pt.locs, Pt.cells, Pt.slots] at X65 l65 y65 z65 st65 hQ65
      rw [l65, y65, z65] at X65
      obtain ⟨rfl, N65q, K65q⟩ := hQ65
      have N67 := Fr.app N62 N65q
      have q68 : (if ((nar .byte (((nar .byte (p0_0.toInt8.toInt32)) ^^^ (-1 : Int32)).toInt8.toInt32)) &&& (255 : Int32)) = (if (0 : Int32) < (0 : Int32) then (p0_0 &&& (255 : Int32)) else ((255 : Int32) - (p0_0 &&& (255 : Int32)))) then (1 : Int32) else (0 : Int32)) = (1 : Int32) := if_pos ((own_k2 _).trans (if_neg (by decide)).symm)
      obtain ⟨fs, hr, hrun, hended, hW, hsame⟩ := X65.leave (v := some (.int (1 : Int32))) (fun h => by rw [Bd.returns] at h; cases h)
      refine ⟨_, _, pre50 _ ?_, hrun, hended, _, _, rfl, ?_, ⟨_, rfl⟩, hW, hsame.mono (by decide) (by decide)⟩
      · show Steps p.tables e below (T45.setTop (mkF m 93 #[iv p0_0, iv p0_1, iv p0_2, iv p0_3, iv p0_4, iv p0_5, iv (1 : Int32), .val (.long (cp.toInt64)), .second, iv (0 : Int32), rv b31, .unset] [(.ref b31)])) _
        refine XS.iload X45.here hx rfl (hb hby at_93) rfl ?_
        show Steps p.tables e below (T45.setTop (mkF m 95 #[iv p0_0, iv p0_1, iv p0_2, iv p0_3, iv p0_4, iv p0_5, iv (1 : Int32), .val (.long (cp.toInt64)), .second, iv (0 : Int32), rv b31, .unset] [(.int (0 : Int32)), (.ref b31)])) _
        refine st52.trans ?_
        show Steps p.tables e below (T52.setTop (mkF m 98 #[iv p0_0, iv p0_1, iv p0_2, iv p0_3, iv p0_4, iv p0_5, iv (1 : Int32), .val (.long (cp.toInt64)), .second, iv (0 : Int32), rv b31, .unset] [])) _
        refine XS.aload X52.here hx rfl (hb hby at_98) rfl rfl ?_
        show Steps p.tables e below (T52.setTop (mkF m 100 #[iv p0_0, iv p0_1, iv p0_2, iv p0_3, iv p0_4, iv p0_5, iv (1 : Int32), .val (.long (cp.toInt64)), .second, iv (0 : Int32), rv b31, .unset] [(.ref b31)])) _
        refine st59.trans ?_
        show Steps p.tables e below (T59.setTop (mkF m 103 #[iv p0_0, iv p0_1, iv p0_2, iv p0_3, iv p0_4, iv p0_5, iv (1 : Int32), .val (.long (cp.toInt64)), .second, iv (0 : Int32), rv b31, .unset] [(.ref b_59)])) _
        refine XS.astore X59.here hx rfl (hb hby at_103) rfl rfl (l' := #[iv p0_0, iv p0_1, iv p0_2, iv p0_3, iv p0_4, iv p0_5, iv (1 : Int32), .val (.long (cp.toInt64)), .second, iv (0 : Int32), rv b31, rv b_59]) rfl ?_
        show Steps p.tables e below (T59.setTop (mkF m 105 #[iv p0_0, iv p0_1, iv p0_2, iv p0_3, iv p0_4, iv p0_5, iv (1 : Int32), .val (.long (cp.toInt64)), .second, iv (0 : Int32), rv b31, rv b_59] [])) _
        refine XS.aload X59.here hx rfl (hb hby at_105) rfl rfl ?_
        show Steps p.tables e below (T59.setTop (mkF m 107 #[iv p0_0, iv p0_1, iv p0_2, iv p0_3, iv p0_4, iv p0_5, iv (1 : Int32), .val (.long (cp.toInt64)), .second, iv (0 : Int32), rv b31, rv b_59] [(.ref b_59)])) _
        refine X59.arraylength hx (Ar64.1) (State.isArrayOf_alike hZ.alike Ar64.2.1) (g := (mkF m 107 #[iv p0_0, iv p0_1, iv p0_2, iv p0_3, iv p0_4, iv p0_5, iv (1 : Int32), .val (.long (cp.toInt64)), .second, iv (0 : Int32), rv b31, rv b_59] [(.ref b_59)])) rfl rfl (hb hby at_107) _ ?_
        rw [len_of Sz64 Nn64]
        show Steps p.tables e below (T59.setTop (mkF m 108 #[iv p0_0, iv p0_1, iv p0_2, iv p0_3, iv p0_4, iv p0_5, iv (1 : Int32), .val (.long (cp.toInt64)), .second, iv (0 : Int32), rv b31, rv b_59] [(.int (1 : Int32))])) _
        refine XS.iload X59.here hx rfl (hb hby at_108) rfl ?_
        refine XS.icmpYes X59.here hx rfl (pc0 := 110) (pc' := 115) rfl (hb hby at_110) rfl (teq (by decide : (1 : Int32) = (1 : Int32))).1 (by decide) (by decide) ?_
        show Steps p.tables e below (T59.setTop (mkF m 115 #[iv p0_0, iv p0_1, iv p0_2, iv p0_3, iv p0_4, iv p0_5, iv (1 : Int32), .val (.long (cp.toInt64)), .second, iv (0 : Int32), rv b31, rv b_59] [])) _
        refine XS.iload X59.here hx rfl (hb hby at_115) rfl ?_
        refine XS.iconst X59.here hx rfl (hb hby at_117) ?_
        refine XS.icmpNo X59.here hx rfl (hb hby at_118) rfl (flt (by decide : ¬ ((1 : Int32) < (1 : Int32)))).1 ?_
        refine XS.aload X59.here hx rfl (hb hby at_121) rfl rfl ?_
        show Steps p.tables e below (T59.setTop (mkF m 123 #[iv p0_0, iv p0_1, iv p0_2, iv p0_3, iv p0_4, iv p0_5, iv (1 : Int32), .val (.long (cp.toInt64)), .second, iv (0 : Int32), rv b31, rv b_59] [(.ref b_59)])) _
        refine XS.iconst X59.here hx rfl (hb hby at_123) ?_
        refine XS.iloadN X59.here hx rfl (hb hby at_124) rfl ?_
        refine XS.iload X59.here hx rfl (hb hby at_125) rfl ?_
        show Steps p.tables e below (T59.setTop (mkF m 127 #[iv p0_0, iv p0_1, iv p0_2, iv p0_3, iv p0_4, iv p0_5, iv (1 : Int32), .val (.long (cp.toInt64)), .second, iv (0 : Int32), rv b31, rv b_59] [(.int (0 : Int32)), (.int p0_0), (.int (0 : Int32)), (.ref b_59)])) _
        refine st65 _ ?_
        show Steps p.tables e below (T65.setTop (mkF m 130 #[iv p0_0, iv p0_1, iv p0_2, iv p0_3, iv p0_4, iv p0_5, iv (1 : Int32), .val (.long (cp.toInt64)), .second, iv (0 : Int32), rv b31, rv b_59] [(.int (if ((nar .byte (((nar .byte (p0_0.toInt8.toInt32)) ^^^ (-1 : Int32)).toInt8.toInt32)) &&& (255 : Int32)) = (if (0 : Int32) < (0 : Int32) then (p0_0 &&& (255 : Int32)) else ((255 : Int32) - (p0_0 &&& (255 : Int32)))) then (1 : Int32) else (0 : Int32)))])) _
        rw [q68]
        show Steps p.tables e below (T65.setTop (mkF m 130 #[iv p0_0, iv p0_1, iv p0_2, iv p0_3, iv p0_4, iv p0_5, iv (1 : Int32), .val (.long (cp.toInt64)), .second, iv (0 : Int32), rv b31, rv b_59] [(.int (1 : Int32))])) _
        show Steps p.tables e below (T65.setTop (mkF m 130 #[iv p0_0, iv p0_1, iv p0_2, iv p0_3, iv p0_4, iv p0_5, iv (1 : Int32), .val (.long (cp.toInt64)), .second, iv (0 : Int32), rv b31, rv b_59] [(.int (1 : Int32))])) _
        refine XS.ifNo X65.here hx rfl (hb hby at_130) rfl ((if0 _ _).trans (feq (by decide : ¬ ((1 : Int32) = (0 : Int32)))).1) ?_
        refine XS.iload X65.here hx rfl (hb hby at_133) rfl ?_
        show Steps p.tables e below (T65.setTop (mkF m 135 #[iv p0_0, iv p0_1, iv p0_2, iv p0_3, iv p0_4, iv p0_5, iv (1 : Int32), .val (.long (cp.toInt64)), .second, iv (0 : Int32), rv b31, rv b_59] [(.int (1 : Int32))])) _
        refine XS.iconst X65.here hx rfl (hb hby at_135) ?_
        refine XS.icmpYes X65.here hx rfl (pc0 := 136) (pc' := 151) rfl (hb hby at_136) rfl (tlt (by decide : (1 : Int32) < (2 : Int32))).1 (by decide) (by decide) ?_
        refine XS.iload X65.here hx rfl (hb hby at_151) rfl ?_
        refine XS.iconst X65.here hx rfl (hb hby at_153) ?_
        show Steps p.tables e below (T65.setTop (mkF m 154 #[iv p0_0, iv p0_1, iv p0_2, iv p0_3, iv p0_4, iv p0_5, iv (1 : Int32), .val (.long (cp.toInt64)), .second, iv (0 : Int32), rv b31, rv b_59] [(.int (3 : Int32)), (.int (1 : Int32))])) _
        refine XS.icmpYes X65.here hx rfl (pc0 := 154) (pc' := 169) rfl (hb hby at_154) rfl (tlt (by decide : (1 : Int32) < (3 : Int32))).1 (by decide) (by decide) ?_
        refine XS.iload X65.here hx rfl (hb hby at_169) rfl ?_
        refine XS.iconst X65.here hx rfl (hb hby at_171) ?_
        refine XS.icmpYes X65.here hx rfl (pc0 := 172) (pc' := 187) rfl (hb hby at_172) rfl (tlt (by decide : (1 : Int32) < (4 : Int32))).1 (by decide) (by decide) ?_
        show Steps p.tables e below (T65.setTop (mkF m 187 #[iv p0_0, iv p0_1, iv p0_2, iv p0_3, iv p0_4, iv p0_5, iv (1 : Int32), .val (.long (cp.toInt64)), .second, iv (0 : Int32), rv b31, rv b_59] [])) _
        refine XS.iconst X65.here hx rfl (hb hby at_187) ?_
        refine XS.goto X65.here hx rfl (pc0 := 188) (pc' := 192) rfl (hb hby at_188) (by decide) (by decide) ?_
        show Steps p.tables e below (T65.setTop (mkF m 192 #[iv p0_0, iv p0_1, iv p0_2, iv p0_3, iv p0_4, iv p0_5, iv (1 : Int32), .val (.long (cp.toInt64)), .second, iv (0 : Int32), rv b31, rv b_59] [(.int (1 : Int32))])) _
        exact retN X65 hx (t := .boolean) Bd.returns (by simp) (hb hby at_192) hr
      · show Q_rm0 Z _ _ _ _ _ _ h0 n0 _ T65.heap _
        rw [K65q]
        exact ⟨rfl, N67, (K63)⟩
    · skip
      have f70 := (Nat.le_trans f46 K45q.1)
      have f71 := (f44.keep K45q)
      obtain ⟨cq69, kq69, q69a, q69b, q69c⟩ := isOf hZ rfl f71
      obtain ⟨_, _, ⟨T69, L69, k69, n69⟩, -, X69, ⟨Lc69, hQ69, l69, y69, z69⟩, st69⟩ := X45.virtualBack hx (y := MN9) (z := MN9) hown (mvT hZ wo43) (mvT hZ wo44) (notFace_of_selects (args := #[]) (mvT hZ wo46)) (mvT hZ wo46) (mvT hZ wo45) (by decide) (backOf (W := 0) (rm_in1_1 l Z a0 hw [] b31 ar2_45 ln2_45 (nar .byte (p0_0.toInt8.toInt32)) (T45.heap) n0 f70 hq45_1 hq45_2 hq45_3 hq45_4 hq45_5 (hq45_6 : (1 : Int32).toInt ≤ ln2_45.toInt)) hZ wo47 wo3 (by decide) (by decide)) q69a q69c (g := (mkF m 95 #[iv p0_0, iv p0_1, iv p0_2, iv p0_3, iv p0_4, iv p0_5, iv (1 : Int32), .val (.long (cp.toInt64)), .second, iv (1 : Int32), rv b31, .unset] [(.int (1 : Int32)), (.ref b31)])) rfl (by rw [hml]; rfl) (Steps.refl _) (argsL := [(.int (1 : Int32))]) (rest := []) (lenOf pd_2 rfl) rfl (by show 2 * 0 + _ ≤ _; exact Nat.le_of_eq rfl) (hb hby at_95) (fun _ _ => ⟨rfl, rfl, (by decide : 3 + 0 ≤ _), (by decide : 10 + 0 ≤ _)⟩)
      dsimp only [Pt.U, Pt.locs, Pt.cells, Pt.slots] at X69 l69 y69 z69 st69 hQ69
      rw [l69, y69, z69] at X69
      obtain ⟨rfl, N69q, K69q, hq69_0⟩ := hQ69
      have N72 := Fr.app N47 N69q
      have K73 : Keep h0 T69.heap [] := (K48).trans K69q (allS (P := fun x => x ∈ [] ∨ h0.size ≤ x) (Or.inr bz49) all0)
      have f74 := (hq45_3.keep K69q (ninS hq45_2 nin0))
      have f75 := (hq45_4.keep K69q (ninS hq45_2 nin0))
      have f77 := (Nat.le_trans f70 K69q.1)
      have f78 := (f71.keep K69q)
      obtain ⟨cq76, kq76, q76a, q76b, q76c⟩ := isOf hZ rfl f78
      obtain ⟨_, _, ⟨T76, L76, k76, n76⟩, -, X76, ⟨Lc76, hQ76, l76, y76, z76⟩, st76⟩ := X69.virtualBack hx (y := MN10) (z := MN10) hown (mvT hZ wo48) (mvT hZ wo49) (notFace_of_selects (args := #[]) (mvT hZ wo51)) (mvT hZ wo51) (mvT hZ wo50) (by decide) (backOf (W := 0) (rm_tb1 l Z a0 hw [] b31 ar2_45 ln2_45 (nar .byte (p0_0.toInt8.toInt32)) (T69.heap) n0 f77 f74 f75 hq69_0 (hq45_6 : (1 : Int32).toInt ≤ ln2_45.toInt)) hZ wo52 wo3 (by decide) (by decide)) q76a q76c (g := (mkF m 100 #[iv p0_0, iv p0_1, iv p0_2, iv p0_3, iv p0_4, iv p0_5, iv (1 : Int32), .val (.long (cp.toInt64)), .second, iv (1 : Int32), rv b31, .unset] [(.ref b31)])) rfl (by rw [hml]; rfl) (Steps.refl _) (argsL := []) (rest := []) (lenOf pd_1 rfl) rfl (by show 2 * 0 + _ ≤ _; exact Nat.le_of_eq rfl) (hb hby at_100) (fun _ _ => ⟨rfl, rfl, (by decide : 3 + 1 ≤ _), (by decide : 10 + 1 ≤ _)⟩)
      dsimp only [Pt.U, Pt.locs, Pt.cells, Pt.slots] at X76 l76 y76 z76 st76 hQ76
      rw [l76, y76, z76] at X76
      obtain ⟨b_76, rfl, N76q, K76q, hq76_0⟩ := hQ76
      have N79 := Fr.app N72 N76q
      have K80 : Keep h0 T76.heap [] := (K73).trans K76q all0
      obtain ⟨kk81, cl81, Ar81, qq81, Sz81, Nn81, Hs81, Gf81⟩ := id hq76_0
      have f83 := (Nat.le_trans f77 K76q.1)
      obtain ⟨_, _, ⟨T82, L82, k82, n82⟩, -, X82, ⟨Lc82, hQ82, l82, y82, z82⟩, st82⟩ := Jvm.LawKit.callS X76 hx (y := MN11) hown (mvT hZ wo53) (mvT hZ wo54) (mvT hZ wo55) (mvT hZ wo56) (by decide) (backOf (W := 0) (rm_ok1_0 l Z a0 hw [] b_76 p0_0 (1 : Int32) (nar .byte (p0_0.toInt8.toInt32)) (T76.heap) n0 f83 hq76_0) hZ wo56 wo55 (by decide) (by decide)) (g := (mkF m 127 #[iv p0_0, iv p0_1, iv p0_2, iv p0_3, iv p0_4, iv p0_5, iv (1 : Int32), .val (.long (cp.toInt64)), .second, iv (1 : Int32), rv b31, rv b_76] [(.int (1 : Int32)), (.int p0_0), (.int (0 : Int32)), (.ref b_76)])) rfl (by rw [hml]; rfl) (argsL := [(.ref b_76), (.int (0 : Int32)), (.int p0_0), (.int (1 : Int32))]) (rest := []) (lenOf pd_8 rfl) rfl (by show 2 * 0 + _ ≤ _; exact Nat.le_of_eq rfl) (hb hby at_127) (fun _ _ => ⟨rfl, rfl, (by decide : 4 + 0 ≤ _), (by decide : 11 + 0 ≤ _)⟩)
      dsimp only [Pt.U, Pt.locs, Pt.cells, Pt.slots] at X82 l82 y82 z82 st82 hQ82
      rw [l82, y82, z82] at X82
      obtain ⟨rfl, N82q, K82q⟩ := hQ82
      have N84 := Fr.app N79 N82q
      have q85 : (if ((nar .byte (p0_0.toInt8.toInt32)) &&& (255 : Int32)) = (if (0 : Int32) < (1 : Int32) then (p0_0 &&& (255 : Int32)) else ((255 : Int32) - (p0_0 &&& (255 : Int32)))) then (1 : Int32) else (0 : Int32)) = (1 : Int32) := if_pos ((own_k1 _).trans (if_pos (by decide)).symm)
      obtain ⟨fs, hr, hrun, hended, hW, hsame⟩ := X82.leave (v := some (.int (1 : Int32))) (fun h => by rw [Bd.returns] at h; cases h)
      refine ⟨_, _, pre50 _ ?_, hrun, hended, _, _, rfl, ?_, ⟨_, rfl⟩, hW, hsame.mono (by decide) (by decide)⟩
      · show Steps p.tables e below (T45.setTop (mkF m 93 #[iv p0_0, iv p0_1, iv p0_2, iv p0_3, iv p0_4, iv p0_5, iv (1 : Int32), .val (.long (cp.toInt64)), .second, iv (1 : Int32), rv b31, .unset] [(.ref b31)])) _
        refine XS.iload X45.here hx rfl (hb hby at_93) rfl ?_
        show Steps p.tables e below (T45.setTop (mkF m 95 #[iv p0_0, iv p0_1, iv p0_2, iv p0_3, iv p0_4, iv p0_5, iv (1 : Int32), .val (.long (cp.toInt64)), .second, iv (1 : Int32), rv b31, .unset] [(.int (1 : Int32)), (.ref b31)])) _
        refine st69.trans ?_
        show Steps p.tables e below (T69.setTop (mkF m 98 #[iv p0_0, iv p0_1, iv p0_2, iv p0_3, iv p0_4, iv p0_5, iv (1 : Int32), .val (.long (cp.toInt64)), .second, iv (1 : Int32), rv b31, .unset] [])) _
        refine XS.aload X69.here hx rfl (hb hby at_98) rfl rfl ?_
        show Steps p.tables e below (T69.setTop (mkF m 100 #[iv p0_0, iv p0_1, iv p0_2, iv p0_3, iv p0_4, iv p0_5, iv (1 : Int32), .val (.long (cp.toInt64)), .second, iv (1 : Int32), rv b31, .unset] [(.ref b31)])) _
        refine st76.trans ?_
        show Steps p.tables e below (T76.setTop (mkF m 103 #[iv p0_0, iv p0_1, iv p0_2, iv p0_3, iv p0_4, iv p0_5, iv (1 : Int32), .val (.long (cp.toInt64)), .second, iv (1 : Int32), rv b31, .unset] [(.ref b_76)])) _
        refine XS.astore X76.here hx rfl (hb hby at_103) rfl rfl (l' := #[iv p0_0, iv p0_1, iv p0_2, iv p0_3, iv p0_4, iv p0_5, iv (1 : Int32), .val (.long (cp.toInt64)), .second, iv (1 : Int32), rv b31, rv b_76]) rfl ?_
        refine XS.aload X76.here hx rfl (hb hby at_105) rfl rfl ?_
        show Steps p.tables e below (T76.setTop (mkF m 107 #[iv p0_0, iv p0_1, iv p0_2, iv p0_3, iv p0_4, iv p0_5, iv (1 : Int32), .val (.long (cp.toInt64)), .second, iv (1 : Int32), rv b31, rv b_76] [(.ref b_76)])) _
        refine X76.arraylength hx (Ar81.1) (State.isArrayOf_alike hZ.alike Ar81.2.1) (g := (mkF m 107 #[iv p0_0, iv p0_1, iv p0_2, iv p0_3, iv p0_4, iv p0_5, iv (1 : Int32), .val (.long (cp.toInt64)), .second, iv (1 : Int32), rv b31, rv b_76] [(.ref b_76)])) rfl rfl (hb hby at_107) _ ?_
        rw [len_of Sz81 Nn81]
        show Steps p.tables e below (T76.setTop (mkF m 108 #[iv p0_0, iv p0_1, iv p0_2, iv p0_3, iv p0_4, iv p0_5, iv (1 : Int32), .val (.long (cp.toInt64)), .second, iv (1 : Int32), rv b31, rv b_76] [(.int (1 : Int32))])) _
        refine XS.iload X76.here hx rfl (hb hby at_108) rfl ?_
        refine XS.icmpYes X76.here hx rfl (pc0 := 110) (pc' := 115) rfl (hb hby at_110) rfl (teq (by decide : (1 : Int32) = (1 : Int32))).1 (by decide) (by decide) ?_
        refine XS.iload X76.here hx rfl (hb hby at_115) rfl ?_
        show Steps p.tables e below (T76.setTop (mkF m 117 #[iv p0_0, iv p0_1, iv p0_2, iv p0_3, iv p0_4, iv p0_5, iv (1 : Int32), .val (.long (cp.toInt64)), .second, iv (1 : Int32), rv b31, rv b_76] [(.int (1 : Int32))])) _
        refine XS.iconst X76.here hx rfl (hb hby at_117) ?_
        refine XS.icmpNo X76.here hx rfl (hb hby at_118) rfl (flt (by decide : ¬ ((1 : Int32) < (1 : Int32)))).1 ?_
        refine XS.aload X76.here hx rfl (hb hby at_121) rfl rfl ?_
        refine XS.iconst X76.here hx rfl (hb hby at_123) ?_
        show Steps p.tables e below (T76.setTop (mkF m 124 #[iv p0_0, iv p0_1, iv p0_2, iv p0_3, iv p0_4, iv p0_5, iv (1 : Int32), .val (.long (cp.toInt64)), .second, iv (1 : Int32), rv b31, rv b_76] [(.int (0 : Int32)), (.ref b_76)])) _
        refine XS.iloadN X76.here hx rfl (hb hby at_124) rfl ?_
        refine XS.iload X76.here hx rfl (hb hby at_125) rfl ?_
        show Steps p.tables e below (T76.setTop (mkF m 127 #[iv p0_0, iv p0_1, iv p0_2, iv p0_3, iv p0_4, iv p0_5, iv (1 : Int32), .val (.long (cp.toInt64)), .second, iv (1 : Int32), rv b31, rv b_76] [(.int (1 : Int32)), (.int p0_0), (.int (0 : Int32)), (.ref b_76)])) _
        refine st82 _ ?_
        show Steps p.tables e below (T82.setTop (mkF m 130 #[iv p0_0, iv p0_1, iv p0_2, iv p0_3, iv p0_4, iv p0_5, iv (1 : Int32), .val (.long (cp.toInt64)), .second, iv (1 : Int32), rv b31, rv b_76] [(.int (if ((nar .byte (p0_0.toInt8.toInt32)) &&& (255 : Int32)) = (if (0 : Int32) < (1 : Int32) then (p0_0 &&& (255 : Int32)) else ((255 : Int32) - (p0_0 &&& (255 : Int32)))) then (1 : Int32) else (0 : Int32)))])) _
        rw [q85]
        show Steps p.tables e below (T82.setTop (mkF m 130 #[iv p0_0, iv p0_1, iv p0_2, iv p0_3, iv p0_4, iv p0_5, iv (1 : Int32), .val (.long (cp.toInt64)), .second, iv (1 : Int32), rv b31, rv b_76] [(.int (1 : Int32))])) _
        show Steps p.tables e below (T82.setTop (mkF m 130 #[iv p0_0, iv p0_1, iv p0_2, iv p0_3, iv p0_4, iv p0_5, iv (1 : Int32), .val (.long (cp.toInt64)), .second, iv (1 : Int32), rv b31, rv b_76] [(.int (1 : Int32))])) _
        refine XS.ifNo X82.here hx rfl (hb hby at_130) rfl ((if0 _ _).trans (feq (by decide : ¬ ((1 : Int32) = (0 : Int32)))).1) ?_
        refine XS.iload X82.here hx rfl (hb hby at_133) rfl ?_
        refine XS.iconst X82.here hx rfl (hb hby at_135) ?_
        show Steps p.tables e below (T82.setTop (mkF m 136 #[iv p0_0, iv p0_1, iv p0_2, iv p0_3, iv p0_4, iv p0_5, iv (1 : Int32), .val (.long (cp.toInt64)), .second, iv (1 : Int32), rv b31, rv b_76] [(.int (2 : Int32)), (.int (1 : Int32))])) _
        refine XS.icmpYes X82.here hx rfl (pc0 := 136) (pc' := 151) rfl (hb hby at_136) rfl (tlt (by decide : (1 : Int32) < (2 : Int32))).1 (by decide) (by decide) ?_
        refine XS.iload X82.here hx rfl (hb hby at_151) rfl ?_
        refine XS.iconst X82.here hx rfl (hb hby at_153) ?_
        refine XS.icmpYes X82.here hx rfl (pc0 := 154) (pc' := 169) rfl (hb hby at_154) rfl (tlt (by decide : (1 : Int32) < (3 : Int32))).1 (by decide) (by decide) ?_
        show Steps p.tables e below (T82.setTop (mkF m 169 #[iv p0_0, iv p0_1, iv p0_2, iv p0_3, iv p0_4, iv p0_5, iv (1 : Int32), .val (.long (cp.toInt64)), .second, iv (1 : Int32), rv b31, rv b_76] [])) _
        refine XS.iload X82.here hx rfl (hb hby at_169) rfl ?_
        refine XS.iconst X82.here hx rfl (hb hby at_171) ?_
        refine XS.icmpYes X82.here hx rfl (pc0 := 172) (pc' := 187) rfl (hb hby at_172) rfl (tlt (by decide : (1 : Int32) < (4 : Int32))).1 (by decide) (by decide) ?_
        refine XS.iconst X82.here hx rfl (hb hby at_187) ?_
        show Steps p.tables e below (T82.setTop (mkF m 188 #[iv p0_0, iv p0_1, iv p0_2, iv p0_3, iv p0_4, iv p0_5, iv (1 : Int32), .val (.long (cp.toInt64)), .second, iv (1 : Int32), rv b31, rv b_76] [(.int (1 : Int32))])) _
        refine XS.goto X82.here hx rfl (pc0 := 188) (pc' := 192) rfl (hb hby at_188) (by decide) (by decide) ?_
        show Steps p.tables e below (T82.setTop (mkF m 192 #[iv p0_0, iv p0_1, iv p0_2, iv p0_3, iv p0_4, iv p0_5, iv (1 : Int32), .val (.long (cp.toInt64)), .second, iv (1 : Int32), rv b31, rv b_76] [(.int (1 : Int32))])) _
        exact retN X82 hx (t := .boolean) Bd.returns (by simp) (hb hby at_192) hr
      · show Q_rm0 Z _ _ _ _ _ _ h0 n0 _ T82.heap _
        rw [K82q]
        exact ⟨rfl, N84, (K80)⟩
  · skip
    obtain ⟨cp, h_cp⟩ : ∃ z : Int32, z = (((p0_5.toUInt32 >>> ((8 : Int32) &&& 31).toUInt32).toInt32) &&& (7 : Int32)) := ⟨_, rfl⟩
    have hcp : 0 ≤ cp.toInt ∧ cp.toInt < 8 := by rw [h_cp]; exact own_cp _
    obtain ⟨T86, h86, X86, e86, E86, A86, D86, -, st86⟩ := newO X0 hx hZ hown wo1 wo2 wo3 e0 (g := (mkF m 32 #[iv p0_0, iv p0_1, iv p0_2, iv p0_3, iv p0_4, iv p0_5, iv (2 : Int32), .val (.long (cp.toInt64)), .second, iv ((p0_4 &&& (2147483647 : Int32)) % (3 : Int32)), .unset, .unset] [])) rfl (hb hby at_32) (by decide) (by decide)
    obtain ⟨b86, gg86⟩ : ∃ z, z = h0.size := ⟨_, rfl⟩
    rw [← gg86] at A86 D86 st86
    have g87 : n0 ≤ b86 := Nat.le_trans Z0 (Nat.le_of_eq gg86.symm)
    have bz88 : h0.size ≤ b86 := Nat.le_trans (Keep.refl h0 []).1 (Nat.le_of_eq gg86.symm)
    have K89 : Keep h0 h86 [] := (Keep.refl h0 []).ext E86
    have f90 : Fld Z h86 b86 "com/example/dido/dido/keys/KeyWriter" "bytes" "[B" .null := D86 (Or.inl wo17) (ty := (.array .byte)) (by decide)
    have f91 : Fld Z h86 b86 "com/example/dido/dido/keys/KeyWriter" "size" "I" (.int (0 : Int32)) := D86 (Or.inl wo28) (ty := .int) (by decide)
    have f93 := (Nat.le_trans Z0 E86.1)
    obtain ⟨_, _, ⟨T92, L92, k92, n92⟩, -, X92, ⟨Lc92, hQ92, l92, y92, z92⟩, st92⟩ := X86.specialBack hx (y := MN1) rfl hown (mvT hZ wo4) (mvT hZ wo5) (mvT hZ wo6) (by decide) (backOf (W := 1) (rm1 l Z a0 hw [] b86 cp h86 n0 f93 A86 g87 f90 f91 (hcp : 0 ≤ cp.toInt ∧ cp.toInt < 8)) hZ wo6 wo3 (by decide) (by decide)) (g := (mkF m 38 #[iv p0_0, iv p0_1, iv p0_2, iv p0_3, iv p0_4, iv p0_5, iv (2 : Int32), .val (.long (cp.toInt64)), .second, iv ((p0_4 &&& (2147483647 : Int32)) % (3 : Int32)), .unset, .unset] [(.long (cp.toInt64)), (.ref b86), (.ref b86)])) rfl (by rw [hml]; rfl) (Steps.refl _) (a := b86) (argsL := [(.long (cp.toInt64))]) (rest := [(.ref b86)]) (lenOf pd_4 rfl) rfl (by show 2 * 0 + _ ≤ _; exact Nat.le_of_eq rfl) (hb hby at_38) (fun _ _ => ⟨rfl, e86, (by decide : 1 + 1 ≤ _), (by decide : 2 + 7 ≤ _)⟩)
    dsimp only [Pt.U, Pt.locs, Pt.cells, Pt.slots] at X92 l92 y92 z92 st92 hQ92
    rw [l92, y92, z92] at X92
    obtain ⟨ar_92, rfl, N92q, K92q, hq92_0, hq92_1, hq92_2, hq92_3⟩ := hQ92
    have N94 := Fr.app N0 N92q
    have ne95 : b86 ≠ ar_92 := Nat.ne_of_lt (Nat.lt_of_lt_of_le A86.lt hq92_0)
    have g96 : n0 ≤ ar_92 := Nat.le_trans f93 hq92_0
    have bz97 : h0.size ≤ ar_92 := Nat.le_trans (K89).1 hq92_0
    have K98 : Keep h0 T92.heap [] := (K89).trans K92q (allS (P := fun x => x ∈ [] ∨ h0.size ≤ x) (Or.inr bz88) all0)
    have f99 := (A86.keep K92q)
    have f101 := (Nat.le_trans f93 K92q.1)
    obtain ⟨cq100, kq100, q100a, q100b, q100c⟩ := isOf hZ rfl f99
    obtain ⟨_, _, ⟨T100, L100, k100, n100⟩, -, X100, ⟨Lc100, hQ100, l100, y100, z100⟩, st100⟩ := X92.virtualBack hx (y := MN4) (z := MN4) hown (mvT hZ wo18) (mvT hZ wo19) (notFace_of_selects (args := #[]) (mvT hZ wo21)) (mvT hZ wo21) (mvT hZ wo20) (by decide) (backOf (W := 0) (rm_wr0 l Z a0 hw [] b86 p0_0 ar_92 cp (T92.heap) n0 f101 f99 g87 g96 ne95 hq92_2 hq92_3 hq92_1 (hcp.1 : (0 : Int32).toInt ≤ cp.toInt) ((Int.lt_trans hcp.2 (by decide)) : cp.toInt < 9)) hZ wo22 wo3 (by decide) (by decide)) q100a q100c (g := (mkF m 52 #[iv p0_0, iv p0_1, iv p0_2, iv p0_3, iv p0_4, iv p0_5, iv (2 : Int32), .val (.long (cp.toInt64)), .second, iv ((p0_4 &&& (2147483647 : Int32)) % (3 : Int32)), rv b86, .unset] [(.int p0_0), (.ref b86)])) rfl (by rw [hml]; rfl) (Steps.refl _) (argsL := [(.int p0_0)]) (rest := []) (lenOf pd_2 rfl) rfl (by show 2 * 0 + _ ≤ _; exact Nat.le_of_eq rfl) (hb hby at_52) (fun _ _ => ⟨rfl, rfl, (by decide : 2 + 1 ≤ _), (by decide : 9 + 1 ≤ _)⟩)
    dsimp only [Pt.U, Pt.locs, Pt.cells, Pt.slots] at X100 l100 y100 z100 st100 hQ100
    rw [l100, y100, z100] at X100
    obtain ⟨ar2_100, ln2_100, rfl, N100q, K100q, hq100_0, hq100_1, hq100_2, hq100_3, hq100_4, hq100_5, hq100_6, hq100_7⟩ := hQ100
    have N102 := Fr.app N94 N100q
    have K103 : Keep h0 T100.heap [] := (K98).trans K100q (allS (P := fun x => x ∈ [] ∨ h0.size ≤ x) (Or.inr bz88) (allS (P := fun x => x ∈ [] ∨ h0.size ≤ x) (Or.inr bz97) all0))
    have bz104 : h0.size ≤ ar2_100 := hq100_0.elim (fun q => q ▸ bz97) (fun q => Nat.le_trans (K98).1 q)
    have f105 := (f99.keep K100q)
    have f107 := (Nat.le_trans f101 K100q.1)
    obtain ⟨cq106, kq106, q106a, q106b, q106c⟩ := isOf hZ rfl f105
    obtain ⟨_, _, ⟨T106, L106, k106, n106⟩, -, X106, ⟨Lc106, hQ106, l106, y106, z106⟩, st106⟩ := X100.virtualBack hx (y := MN4) (z := MN4) hown (mvT hZ wo18) (mvT hZ wo19) (notFace_of_selects (args := #[]) (mvT hZ wo21)) (mvT hZ wo21) (mvT hZ wo20) (by decide) (backOf (W := 0) (rm_wr1 l Z a0 hw [] b86 p0_1 ar2_100 ln2_100 (nar .byte (p0_0.toInt8.toInt32)) (T100.heap) n0 f107 f105 g87 hq100_1 hq100_2 hq100_3 hq100_4 hq100_5 (hq100_6 : (1 : Int32).toInt ≤ ln2_100.toInt) (hq100_7 : ln2_100.toInt < 9)) hZ wo22 wo3 (by decide) (by decide)) q106a q106c (g := (mkF m 64 #[iv p0_0, iv p0_1, iv p0_2, iv p0_3, iv p0_4, iv p0_5, iv (2 : Int32), .val (.long (cp.toInt64)), .second, iv ((p0_4 &&& (2147483647 : Int32)) % (3 : Int32)), rv b86, .unset] [(.int p0_1), (.ref b86)])) rfl (by rw [hml]; rfl) (Steps.refl _) (argsL := [(.int p0_1)]) (rest := []) (lenOf pd_2 rfl) rfl (by show 2 * 0 + _ ≤ _; exact Nat.le_of_eq rfl) (hb hby at_64) (fun _ _ => ⟨rfl, rfl, (by decide : 3 + 1 ≤ _), (by decide : 10 + 2 ≤ _)⟩)
    dsimp only [Pt.U, Pt.locs, Pt.cells, Pt.slots] at X106 l106 y106 z106 st106 hQ106
    rw [l106, y106, z106] at X106
    obtain ⟨ar2_106, ln2_106, rfl, N106q, K106q, hq106_0, hq106_1, hq106_2, hq106_3, hq106_4, hq106_5, hq106_6, hq106_7⟩ := hQ106
    have N108 := Fr.app N102 N106q
    have K109 : Keep h0 T106.heap [] := (K103).trans K106q (allS (P := fun x => x ∈ [] ∨ h0.size ≤ x) (Or.inr bz88) (allS (P := fun x => x ∈ [] ∨ h0.size ≤ x) (Or.inr bz104) all0))
    have bz110 : h0.size ≤ ar2_106 := hq106_0.elim (fun q => q ▸ bz104) (fun q => Nat.le_trans (K103).1 q)
    obtain ⟨fr, h_fr⟩ : ∃ z : Int32, z = ((p0_4 &&& (2147483647 : Int32)) % (3 : Int32)) := ⟨_, rfl⟩
    have hfr : 0 ≤ fr.toInt ∧ fr.toInt < 3 := by rw [h_fr]; exact own_mod _ 3 (by decide)
    have pre111 : ∀ t, Steps p.tables e below (T106.setTop (mkF m 93 #[iv p0_0, iv p0_1, iv p0_2, iv p0_3, iv p0_4, iv p0_5, iv (2 : Int32), .val (.long (cp.toInt64)), .second, iv fr, rv b86, .unset] [(.ref b86)])) t → Steps p.tables e below (s₁.setTop (entryFrame m #[(.int p0_0), (.int p0_1), (.int p0_2), (.int p0_3), (.int p0_4), (.int p0_5)] maxLocals)) t := by
      intro t_ k_
      refine pre1 _ ?_
      show Steps p.tables e below (s₁.setTop (mkF m 9 #[iv p0_0, iv p0_1, iv p0_2, iv p0_3, iv p0_4, iv p0_5, iv (2 : Int32), .unset, .unset, .unset, .unset, .unset] [])) _
      refine XS.iload X0.here hx rfl (hb hby at_9) rfl ?_
      refine XS.bipush X0.here hx rfl (hb hby at_11) ?_
      show Steps p.tables e below (s₁.setTop (mkF m 13 #[iv p0_0, iv p0_1, iv p0_2, iv p0_3, iv p0_4, iv p0_5, iv (2 : Int32), .unset, .unset, .unset, .unset, .unset] [(.int (8 : Int32)), (.int p0_5)])) _
      refine XS.iushr X0.here hx rfl (hb hby at_13) rfl ?_
      refine XS.bipush X0.here hx rfl (hb hby at_14) ?_
      refine XS.iand X0.here hx rfl (hb hby at_16) rfl ?_
      show Steps p.tables e below (s₁.setTop (mkF m 17 #[iv p0_0, iv p0_1, iv p0_2, iv p0_3, iv p0_4, iv p0_5, iv (2 : Int32), .unset, .unset, .unset, .unset, .unset] [(.int (((p0_5.toUInt32 >>> ((8 : Int32) &&& 31).toUInt32).toInt32) &&& (7 : Int32)))])) _
      rw [← h_cp]
      show Steps p.tables e below (s₁.setTop (mkF m 17 #[iv p0_0, iv p0_1, iv p0_2, iv p0_3, iv p0_4, iv p0_5, iv (2 : Int32), .unset, .unset, .unset, .unset, .unset] [(.int cp)])) _
      show Steps p.tables e below (s₁.setTop (mkF m 17 #[iv p0_0, iv p0_1, iv p0_2, iv p0_3, iv p0_4, iv p0_5, iv (2 : Int32), .unset, .unset, .unset, .unset, .unset] [(.int cp)])) _
      refine XS.i2l X0.here hx rfl (hb hby at_17) rfl ?_
      refine XS.lstore X0.here hx rfl (hb hby at_18) rfl (l' := #[iv p0_0, iv p0_1, iv p0_2, iv p0_3, iv p0_4, iv p0_5, iv (2 : Int32), .val (.long (cp.toInt64)), .second, .unset, .unset, .unset]) rfl ?_
      refine XS.iload X0.here hx rfl (hb hby at_20) rfl ?_
      show Steps p.tables e below (s₁.setTop (mkF m 22 #[iv p0_0, iv p0_1, iv p0_2, iv p0_3, iv p0_4, iv p0_5, iv (2 : Int32), .val (.long (cp.toInt64)), .second, .unset, .unset, .unset] [(.int p0_4)])) _
      refine X0.ldcInt hx hown (mvT hZ wo0) (g := (mkF m 22 #[iv p0_0, iv p0_1, iv p0_2, iv p0_3, iv p0_4, iv p0_5, iv (2 : Int32), .val (.long (cp.toInt64)), .second, .unset, .unset, .unset] [(.int p0_4)])) rfl (hb hby at_22) _ ?_
      show Steps p.tables e below (s₁.setTop (mkF m 24 #[iv p0_0, iv p0_1, iv p0_2, iv p0_3, iv p0_4, iv p0_5, iv (2 : Int32), .val (.long (cp.toInt64)), .second, .unset, .unset, .unset] [(.int (2147483647 : Int32)), (.int p0_4)])) _
      refine XS.iand X0.here hx rfl (hb hby at_24) rfl ?_
      refine XS.iload X0.here hx rfl (hb hby at_25) rfl ?_
      refine XS.iconst X0.here hx rfl (hb hby at_27) ?_
      show Steps p.tables e below (s₁.setTop (mkF m 28 #[iv p0_0, iv p0_1, iv p0_2, iv p0_3, iv p0_4, iv p0_5, iv (2 : Int32), .val (.long (cp.toInt64)), .second, .unset, .unset, .unset] [(.int (1 : Int32)), (.int (2 : Int32)), (.int (p0_4 &&& (2147483647 : Int32)))])) _
      refine XS.iadd X0.here hx rfl (hb hby at_28) rfl ?_
      show Steps p.tables e below (s₁.setTop (mkF m 29 #[iv p0_0, iv p0_1, iv p0_2, iv p0_3, iv p0_4, iv p0_5, iv (2 : Int32), .val (.long (cp.toInt64)), .second, .unset, .unset, .unset] [(.int (3 : Int32)), (.int (p0_4 &&& (2147483647 : Int32)))])) _
      refine iremM (g := (mkF m 29 #[iv p0_0, iv p0_1, iv p0_2, iv p0_3, iv p0_4, iv p0_5, iv (2 : Int32), .val (.long (cp.toInt64)), .second, .unset, .unset, .unset] [(.int (3 : Int32)), (.int (p0_4 &&& (2147483647 : Int32)))])) X0 hx rfl (hb hby at_29) rfl (by decide) ?_
      show Steps p.tables e below (s₁.setTop (mkF m 30 #[iv p0_0, iv p0_1, iv p0_2, iv p0_3, iv p0_4, iv p0_5, iv (2 : Int32), .val (.long (cp.toInt64)), .second, .unset, .unset, .unset] [(.int ((p0_4 &&& (2147483647 : Int32)) % (3 : Int32)))])) _
      refine XS.istore X0.here hx rfl (hb hby at_30) rfl (l' := #[iv p0_0, iv p0_1, iv p0_2, iv p0_3, iv p0_4, iv p0_5, iv (2 : Int32), .val (.long (cp.toInt64)), .second, iv ((p0_4 &&& (2147483647 : Int32)) % (3 : Int32)), .unset, .unset]) rfl ?_
      show Steps p.tables e below (s₁.setTop (mkF m 32 #[iv p0_0, iv p0_1, iv p0_2, iv p0_3, iv p0_4, iv p0_5, iv (2 : Int32), .val (.long (cp.toInt64)), .second, iv ((p0_4 &&& (2147483647 : Int32)) % (3 : Int32)), .unset, .unset] [])) _
      refine st86 _ ?_
      show Steps p.tables e below (T86.setTop (mkF m 35 #[iv p0_0, iv p0_1, iv p0_2, iv p0_3, iv p0_4, iv p0_5, iv (2 : Int32), .val (.long (cp.toInt64)), .second, iv ((p0_4 &&& (2147483647 : Int32)) % (3 : Int32)), .unset, .unset] [(.ref b86)])) _
      refine XS.dup X86.here hx rfl (hb hby at_35) rfl rfl ?_
      refine XS.lload X86.here hx rfl (hb hby at_36) rfl ?_
      show Steps p.tables e below (T86.setTop (mkF m 38 #[iv p0_0, iv p0_1, iv p0_2, iv p0_3, iv p0_4, iv p0_5, iv (2 : Int32), .val (.long (cp.toInt64)), .second, iv ((p0_4 &&& (2147483647 : Int32)) % (3 : Int32)), .unset, .unset] [(.long (cp.toInt64)), (.ref b86), (.ref b86)])) _
      refine st92.trans ?_
      show Steps p.tables e below (T92.setTop (mkF m 41 #[iv p0_0, iv p0_1, iv p0_2, iv p0_3, iv p0_4, iv p0_5, iv (2 : Int32), .val (.long (cp.toInt64)), .second, iv ((p0_4 &&& (2147483647 : Int32)) % (3 : Int32)), .unset, .unset] [(.ref b86)])) _
      refine XS.astore X92.here hx rfl (hb hby at_41) rfl rfl (l' := #[iv p0_0, iv p0_1, iv p0_2, iv p0_3, iv p0_4, iv p0_5, iv (2 : Int32), .val (.long (cp.toInt64)), .second, iv ((p0_4 &&& (2147483647 : Int32)) % (3 : Int32)), rv b86, .unset]) rfl ?_
      show Steps p.tables e below (T92.setTop (mkF m 43 #[iv p0_0, iv p0_1, iv p0_2, iv p0_3, iv p0_4, iv p0_5, iv (2 : Int32), .val (.long (cp.toInt64)), .second, iv ((p0_4 &&& (2147483647 : Int32)) % (3 : Int32)), rv b86, .unset] [])) _
      refine XS.iload X92.here hx rfl (hb hby at_43) rfl ?_
      refine XS.iconst X92.here hx rfl (hb hby at_45) ?_
      refine XS.icmpNo X92.here hx rfl (hb hby at_46) rfl (flt (by decide : ¬ ((2 : Int32) < (1 : Int32)))).1 ?_
      refine XS.aload X92.here hx rfl (hb hby at_49) rfl rfl ?_
      show Steps p.tables e below (T92.setTop (mkF m 51 #[iv p0_0, iv p0_1, iv p0_2, iv p0_3, iv p0_4, iv p0_5, iv (2 : Int32), .val (.long (cp.toInt64)), .second, iv ((p0_4 &&& (2147483647 : Int32)) % (3 : Int32)), rv b86, .unset] [(.ref b86)])) _
      refine XS.iloadN X92.here hx rfl (hb hby at_51) rfl ?_
      show Steps p.tables e below (T92.setTop (mkF m 52 #[iv p0_0, iv p0_1, iv p0_2, iv p0_3, iv p0_4, iv p0_5, iv (2 : Int32), .val (.long (cp.toInt64)), .second, iv ((p0_4 &&& (2147483647 : Int32)) % (3 : Int32)), rv b86, .unset] [(.int p0_0), (.ref b86)])) _
      refine st100.trans ?_
      show Steps p.tables e below (T100.setTop (mkF m 55 #[iv p0_0, iv p0_1, iv p0_2, iv p0_3, iv p0_4, iv p0_5, iv (2 : Int32), .val (.long (cp.toInt64)), .second, iv ((p0_4 &&& (2147483647 : Int32)) % (3 : Int32)), rv b86, .unset] [])) _
      refine XS.iload X100.here hx rfl (hb hby at_55) rfl ?_
      refine XS.iconst X100.here hx rfl (hb hby at_57) ?_
      show Steps p.tables e below (T100.setTop (mkF m 58 #[iv p0_0, iv p0_1, iv p0_2, iv p0_3, iv p0_4, iv p0_5, iv (2 : Int32), .val (.long (cp.toInt64)), .second, iv ((p0_4 &&& (2147483647 : Int32)) % (3 : Int32)), rv b86, .unset] [(.int (2 : Int32)), (.int (2 : Int32))])) _
      refine XS.icmpNo X100.here hx rfl (hb hby at_58) rfl (flt (by decide : ¬ ((2 : Int32) < (2 : Int32)))).1 ?_
      refine XS.aload X100.here hx rfl (hb hby at_61) rfl rfl ?_
      refine XS.iloadN X100.here hx rfl (hb hby at_63) rfl ?_
      show Steps p.tables e below (T100.setTop (mkF m 64 #[iv p0_0, iv p0_1, iv p0_2, iv p0_3, iv p0_4, iv p0_5, iv (2 : Int32), .val (.long (cp.toInt64)), .second, iv ((p0_4 &&& (2147483647 : Int32)) % (3 : Int32)), rv b86, .unset] [(.int p0_1), (.ref b86)])) _
      refine st106.trans ?_
      show Steps p.tables e below (T106.setTop (mkF m 67 #[iv p0_0, iv p0_1, iv p0_2, iv p0_3, iv p0_4, iv p0_5, iv (2 : Int32), .val (.long (cp.toInt64)), .second, iv ((p0_4 &&& (2147483647 : Int32)) % (3 : Int32)), rv b86, .unset] [])) _
      refine XS.iload X106.here hx rfl (hb hby at_67) rfl ?_
      refine XS.iconst X106.here hx rfl (hb hby at_69) ?_
      refine XS.icmpYes X106.here hx rfl (pc0 := 70) (pc' := 79) rfl (hb hby at_70) rfl (tlt (by decide : (2 : Int32) < (3 : Int32))).1 (by decide) (by decide) ?_
      refine XS.iload X106.here hx rfl (hb hby at_79) rfl ?_
      show Steps p.tables e below (T106.setTop (mkF m 81 #[iv p0_0, iv p0_1, iv p0_2, iv p0_3, iv p0_4, iv p0_5, iv (2 : Int32), .val (.long (cp.toInt64)), .second, iv ((p0_4 &&& (2147483647 : Int32)) % (3 : Int32)), rv b86, .unset] [(.int (2 : Int32))])) _
      refine XS.iconst X106.here hx rfl (hb hby at_81) ?_
      refine XS.icmpYes X106.here hx rfl (pc0 := 82) (pc' := 91) rfl (hb hby at_82) rfl (tlt (by decide : (2 : Int32) < (4 : Int32))).1 (by decide) (by decide) ?_
      refine XS.aload X106.here hx rfl (hb hby at_91) rfl rfl ?_
      show Steps p.tables e below (T106.setTop (mkF m 93 #[iv p0_0, iv p0_1, iv p0_2, iv p0_3, iv p0_4, iv p0_5, iv (2 : Int32), .val (.long (cp.toInt64)), .second, iv ((p0_4 &&& (2147483647 : Int32)) % (3 : Int32)), rv b86, .unset] [(.ref b86)])) _
      rw [← h_fr]
      show Steps p.tables e below (T106.setTop (mkF m 93 #[iv p0_0, iv p0_1, iv p0_2, iv p0_3, iv p0_4, iv p0_5, iv (2 : Int32), .val (.long (cp.toInt64)), .second, iv fr, rv b86, .unset] [(.ref b86)])) _
      exact k_
    have hx_112 : fr = (0 : Int32) ∨ fr = (1 : Int32) ∨ fr = (2 : Int32) := own_lt3 fr hfr
    rcases hx_112 with rfl | rfl | rfl
    · skip
      have f114 := (Nat.le_trans f107 K106q.1)
      have f115 := (f105.keep K106q)
      obtain ⟨cq113, kq113, q113a, q113b, q113c⟩ := isOf hZ rfl f115
      obtain ⟨_, _, ⟨T113, L113, k113, n113⟩, -, X113, ⟨Lc113, hQ113, l113, y113, z113⟩, st113⟩ := X106.virtualBack hx (y := MN9) (z := MN9) hown (mvT hZ wo43) (mvT hZ wo44) (notFace_of_selects (args := #[]) (mvT hZ wo46)) (mvT hZ wo46) (mvT hZ wo45) (by decide) (backOf (W := 0) (rm_in2_0 l Z a0 hw [] b86 ar2_106 ln2_106 (nar .byte (p0_0.toInt8.toInt32)) (nar .byte (p0_1.toInt8.toInt32)) (T106.heap) n0 f114 hq106_1 hq106_2 hq106_3 hq106_4 hq106_5 (hq106_6 : (2 : Int32).toInt ≤ ln2_106.toInt)) hZ wo47 wo3 (by decide) (by decide)) q113a q113c (g := (mkF m 95 #[iv p0_0, iv p0_1, iv p0_2, iv p0_3, iv p0_4, iv p0_5, iv (2 : Int32), .val (.long (cp.toInt64)), .second, iv (0 : Int32), rv b86, .unset] [(.int (0 : Int32)), (.ref b86)])) rfl (by rw [hml]; rfl) (Steps.refl _) (argsL := [(.int (0 : Int32))]) (rest := []) (lenOf pd_2 rfl) rfl (by show 2 * 0 + _ ≤ _; exact Nat.le_of_eq rfl) (hb hby at_95) (fun _ _ => ⟨rfl, rfl, (by decide : 4 + 0 ≤ _), (by decide : 12 + 0 ≤ _)⟩)
      dsimp only [Pt.U, Pt.locs, Pt.cells, Pt.slots] at X113 l113 y113 z113 st113 hQ113
      rw [l113, y113, z113] at X113
      obtain ⟨rfl, N113q, K113q, hq113_0⟩ := hQ113
      have N116 := Fr.app N108 N113q
      have K117 : Keep h0 T113.heap [] := (K109).trans K113q (allS (P := fun x => x ∈ [] ∨ h0.size ≤ x) (Or.inr bz110) all0)
      have f118 := (hq106_3.keep K113q (ninS hq106_2 nin0))
      have f119 := (hq106_4.keep K113q (ninS hq106_2 nin0))
      have f121 := (Nat.le_trans f114 K113q.1)
      have f122 := (f115.keep K113q)
      obtain ⟨cq120, kq120, q120a, q120b, q120c⟩ := isOf hZ rfl f122
      obtain ⟨_, _, ⟨T120, L120, k120, n120⟩, -, X120, ⟨Lc120, hQ120, l120, y120, z120⟩, st120⟩ := X113.virtualBack hx (y := MN10) (z := MN10) hown (mvT hZ wo48) (mvT hZ wo49) (notFace_of_selects (args := #[]) (mvT hZ wo51)) (mvT hZ wo51) (mvT hZ wo50) (by decide) (backOf (W := 0) (rm_tb2 l Z a0 hw [] b86 ar2_106 ln2_106 (nar .byte (((nar .byte (p0_0.toInt8.toInt32)) ^^^ (-1 : Int32)).toInt8.toInt32)) (nar .byte (((nar .byte (p0_1.toInt8.toInt32)) ^^^ (-1 : Int32)).toInt8.toInt32)) (T113.heap) n0 f121 f118 f119 hq113_0 (hq106_6 : (2 : Int32).toInt ≤ ln2_106.toInt)) hZ wo52 wo3 (by decide) (by decide)) q120a q120c (g := (mkF m 100 #[iv p0_0, iv p0_1, iv p0_2, iv p0_3, iv p0_4, iv p0_5, iv (2 : Int32), .val (.long (cp.toInt64)), .second, iv (0 : Int32), rv b86, .unset] [(.ref b86)])) rfl (by rw [hml]; rfl) (Steps.refl _) (argsL := []) (rest := []) (lenOf pd_1 rfl) rfl (by show 2 * 0 + _ ≤ _; exact Nat.le_of_eq rfl) (hb hby at_100) (fun _ _ => ⟨rfl, rfl, (by decide : 4 + 1 ≤ _), (by decide : 12 + 2 ≤ _)⟩)
      dsimp only [Pt.U, Pt.locs, Pt.cells, Pt.slots] at X120 l120 y120 z120 st120 hQ120
      rw [l120, y120, z120] at X120
      obtain ⟨b_120, rfl, N120q, K120q, hq120_0⟩ := hQ120
      have N123 := Fr.app N116 N120q
      have K124 : Keep h0 T120.heap [] := (K117).trans K120q all0
      obtain ⟨kk125, cl125, Ar125, qq125, Sz125, Nn125, Hs125, Gf125⟩ := id hq120_0
      have f127 := (Nat.le_trans f121 K120q.1)
      obtain ⟨_, _, ⟨T126, L126, k126, n126⟩, -, X126, ⟨Lc126, hQ126, l126, y126, z126⟩, st126⟩ := Jvm.LawKit.callS X120 hx (y := MN11) hown (mvT hZ wo53) (mvT hZ wo54) (mvT hZ wo55) (mvT hZ wo56) (by decide) (backOf (W := 0) (rm_ok2_0 l Z a0 hw [] b_120 p0_0 (0 : Int32) (nar .byte (((nar .byte (p0_0.toInt8.toInt32)) ^^^ (-1 : Int32)).toInt8.toInt32)) (nar .byte (((nar .byte (p0_1.toInt8.toInt32)) ^^^ (-1 : Int32)).toInt8.toInt32)) (T120.heap) n0 f127 hq120_0) hZ wo56 wo55 (by decide) (by decide)) (g := (mkF m 127 #[iv p0_0, iv p0_1, iv p0_2, iv p0_3, iv p0_4, iv p0_5, iv (2 : Int32), .val (.long (cp.toInt64)), .second, iv (0 : Int32), rv b86, rv b_120] [(.int (0 : Int32)), (.int p0_0), (.int (0 : Int32)), (.ref b_120)])) rfl (by rw [hml]; rfl) (argsL := [(.ref b_120), (.int (0 : Int32)), (.int p0_0), (.int (0 : Int32))]) (rest := []) (lenOf pd_8 rfl) rfl (by show 2 * 0 + _ ≤ _; exact Nat.le_of_eq rfl) (hb hby at_127) (fun _ _ => ⟨rfl, rfl, (by decide : 5 + 0 ≤ _), (by decide : 14 + 0 ≤ _)⟩)
      dsimp only [Pt.U, Pt.locs, Pt.cells, Pt.slots] at X126 l126 y126 z126 st126 hQ126
      rw [l126, y126, z126] at X126
      obtain ⟨rfl, N126q, K126q⟩ := hQ126
      have N128 := Fr.app N123 N126q
      have q129 : (if ((nar .byte (((nar .byte (p0_0.toInt8.toInt32)) ^^^ (-1 : Int32)).toInt8.toInt32)) &&& (255 : Int32)) = (if (0 : Int32) < (0 : Int32) then (p0_0 &&& (255 : Int32)) else ((255 : Int32) - (p0_0 &&& (255 : Int32)))) then (1 : Int32) else (0 : Int32)) = (1 : Int32) := if_pos ((own_k2 _).trans (if_neg (by decide)).symm)
      obtain ⟨_, _, ⟨T130, L130, k130, n130⟩, -, X130, ⟨Lc130, hQ130, l130, y130, z130⟩, st130⟩ := Jvm.LawKit.callS X126 hx (y := MN11) hown (mvT hZ wo53) (mvT hZ wo54) (mvT hZ wo55) (mvT hZ wo56) (by decide) (backOf (W := 0) (rm_ok2_1 l Z a0 hw [] b_120 p0_1 (0 : Int32) (nar .byte (((nar .byte (p0_0.toInt8.toInt32)) ^^^ (-1 : Int32)).toInt8.toInt32)) (nar .byte (((nar .byte (p0_1.toInt8.toInt32)) ^^^ (-1 : Int32)).toInt8.toInt32)) (T120.heap) n0 f127 hq120_0) hZ wo56 wo55 (by decide) (by decide)) (g := (mkF m 145 #[iv p0_0, iv p0_1, iv p0_2, iv p0_3, iv p0_4, iv p0_5, iv (2 : Int32), .val (.long (cp.toInt64)), .second, iv (0 : Int32), rv b86, rv b_120] [(.int (0 : Int32)), (.int p0_1), (.int (1 : Int32)), (.ref b_120)])) rfl (by rw [hml]; rfl) (argsL := [(.ref b_120), (.int (1 : Int32)), (.int p0_1), (.int (0 : Int32))]) (rest := []) (lenOf pd_8 rfl) rfl (by show 2 * 0 + _ ≤ _; exact Nat.le_of_eq rfl) (hb hby at_145) (fun _ _ => ⟨rfl, K126q, (by decide : 5 + 0 ≤ _), (by decide : 14 + 0 ≤ _)⟩)
      dsimp only [Pt.U, Pt.locs, Pt.cells, Pt.slots] at X130 l130 y130 z130 st130 hQ130
      rw [l130, y130, z130] at X130
      obtain ⟨rfl, N130q, K130q⟩ := hQ130
      have N131 := Fr.app N128 N130q
      have q132 : (if ((nar .byte (((nar .byte (p0_1.toInt8.toInt32)) ^^^ (-1 : Int32)).toInt8.toInt32)) &&& (255 : Int32)) = (if (1 : Int32) < (0 : Int32) then (p0_1 &&& (255 : Int32)) else ((255 : Int32) - (p0_1 &&& (255 : Int32)))) then (1 : Int32) else (0 : Int32)) = (1 : Int32) := if_pos ((own_k2 _).trans (if_neg (by decide)).symm)
      obtain ⟨fs, hr, hrun, hended, hW, hsame⟩ := X130.leave (v := some (.int (1 : Int32))) (fun h => by rw [Bd.returns] at h; cases h)
      refine ⟨_, _, pre111 _ ?_, hrun, hended, _, _, rfl, ?_, ⟨_, rfl⟩, hW, hsame.mono (by decide) (by decide)⟩
      · show Steps p.tables e below (T106.setTop (mkF m 93 #[iv p0_0, iv p0_1, iv p0_2, iv p0_3, iv p0_4, iv p0_5, iv (2 : Int32), .val (.long (cp.toInt64)), .second, iv (0 : Int32), rv b86, .unset] [(.ref b86)])) _
        refine XS.iload X106.here hx rfl (hb hby at_93) rfl ?_
        show Steps p.tables e below (T106.setTop (mkF m 95 #[iv p0_0, iv p0_1, iv p0_2, iv p0_3, iv p0_4, iv p0_5, iv (2 : Int32), .val (.long (cp.toInt64)), .second, iv (0 : Int32), rv b86, .unset] [(.int (0 : Int32)), (.ref b86)])) _
        refine st113.trans ?_
        show Steps p.tables e below (T113.setTop (mkF m 98 #[iv p0_0, iv p0_1, iv p0_2, iv p0_3, iv p0_4, iv p0_5, iv (2 : Int32), .val (.long (cp.toInt64)), .second, iv (0 : Int32), rv b86, .unset] [])) _
        refine XS.aload X113.here hx rfl (hb hby at_98) rfl rfl ?_
        show Steps p.tables e below (T113.setTop (mkF m 100 #[iv p0_0, iv p0_1, iv p0_2, iv p0_3, iv p0_4, iv p0_5, iv (2 : Int32), .val (.long (cp.toInt64)), .second, iv (0 : Int32), rv b86, .unset] [(.ref b86)])) _
        refine st120.trans ?_
        show Steps p.tables e below (T120.setTop (mkF m 103 #[iv p0_0, iv p0_1, iv p0_2, iv p0_3, iv p0_4, iv p0_5, iv (2 : Int32), .val (.long (cp.toInt64)), .second, iv (0 : Int32), rv b86, .unset] [(.ref b_120)])) _
        refine XS.astore X120.here hx rfl (hb hby at_103) rfl rfl (l' := #[iv p0_0, iv p0_1, iv p0_2, iv p0_3, iv p0_4, iv p0_5, iv (2 : Int32), .val (.long (cp.toInt64)), .second, iv (0 : Int32), rv b86, rv b_120]) rfl ?_
        refine XS.aload X120.here hx rfl (hb hby at_105) rfl rfl ?_
        show Steps p.tables e below (T120.setTop (mkF m 107 #[iv p0_0, iv p0_1, iv p0_2, iv p0_3, iv p0_4, iv p0_5, iv (2 : Int32), .val (.long (cp.toInt64)), .second, iv (0 : Int32), rv b86, rv b_120] [(.ref b_120)])) _
        refine X120.arraylength hx (Ar125.1) (State.isArrayOf_alike hZ.alike Ar125.2.1) (g := (mkF m 107 #[iv p0_0, iv p0_1, iv p0_2, iv p0_3, iv p0_4, iv p0_5, iv (2 : Int32), .val (.long (cp.toInt64)), .second, iv (0 : Int32), rv b86, rv b_120] [(.ref b_120)])) rfl rfl (hb hby at_107) _ ?_
        rw [len_of Sz125 Nn125]
        show Steps p.tables e below (T120.setTop (mkF m 108 #[iv p0_0, iv p0_1, iv p0_2, iv p0_3, iv p0_4, iv p0_5, iv (2 : Int32), .val (.long (cp.toInt64)), .second, iv (0 : Int32), rv b86, rv b_120] [(.int (2 : Int32))])) _
        refine XS.iload X120.here hx rfl (hb hby at_108) rfl ?_
        show Steps p.tables e below (T120.setTop (mkF m 110 #[iv p0_0, iv p0_1, iv p0_2, iv p0_3, iv p0_4, iv p0_5, iv (2 : Int32), .val (.long (cp.toInt64)), .second, iv (0 : Int32), rv b86, rv b_120] [(.int (2 : Int32)), (.int (2 : Int32))])) _
        refine XS.icmpYes X120.here hx rfl (pc0 := 110) (pc' := 115) rfl (hb hby at_110) rfl (teq (by decide : (2 : Int32) = (2 : Int32))).1 (by decide) (by decide) ?_
        refine XS.iload X120.here hx rfl (hb hby at_115) rfl ?_
        refine XS.iconst X120.here hx rfl (hb hby at_117) ?_
        refine XS.icmpNo X120.here hx rfl (hb hby at_118) rfl (flt (by decide : ¬ ((2 : Int32) < (1 : Int32)))).1 ?_
        show Steps p.tables e below (T120.setTop (mkF m 121 #[iv p0_0, iv p0_1, iv p0_2, iv p0_3, iv p0_4, iv p0_5, iv (2 : Int32), .val (.long (cp.toInt64)), .second, iv (0 : Int32), rv b86, rv b_120] [])) _
        refine XS.aload X120.here hx rfl (hb hby at_121) rfl rfl ?_
        refine XS.iconst X120.here hx rfl (hb hby at_123) ?_
        refine XS.iloadN X120.here hx rfl (hb hby at_124) rfl ?_
        refine XS.iload X120.here hx rfl (hb hby at_125) rfl ?_
        show Steps p.tables e below (T120.setTop (mkF m 127 #[iv p0_0, iv p0_1, iv p0_2, iv p0_3, iv p0_4, iv p0_5, iv (2 : Int32), .val (.long (cp.toInt64)), .second, iv (0 : Int32), rv b86, rv b_120] [(.int (0 : Int32)), (.int p0_0), (.int (0 : Int32)), (.ref b_120)])) _
        refine st126 _ ?_
        show Steps p.tables e below (T126.setTop (mkF m 130 #[iv p0_0, iv p0_1, iv p0_2, iv p0_3, iv p0_4, iv p0_5, iv (2 : Int32), .val (.long (cp.toInt64)), .second, iv (0 : Int32), rv b86, rv b_120] [(.int (if ((nar .byte (((nar .byte (p0_0.toInt8.toInt32)) ^^^ (-1 : Int32)).toInt8.toInt32)) &&& (255 : Int32)) = (if (0 : Int32) < (0 : Int32) then (p0_0 &&& (255 : Int32)) else ((255 : Int32) - (p0_0 &&& (255 : Int32)))) then (1 : Int32) else (0 : Int32)))])) _
        rw [q129]
        show Steps p.tables e below (T126.setTop (mkF m 130 #[iv p0_0, iv p0_1, iv p0_2, iv p0_3, iv p0_4, iv p0_5, iv (2 : Int32), .val (.long (cp.toInt64)), .second, iv (0 : Int32), rv b86, rv b_120] [(.int (1 : Int32))])) _
        show Steps p.tables e below (T126.setTop (mkF m 130 #[iv p0_0, iv p0_1, iv p0_2, iv p0_3, iv p0_4, iv p0_5, iv (2 : Int32), .val (.long (cp.toInt64)), .second, iv (0 : Int32), rv b86, rv b_120] [(.int (1 : Int32))])) _
        refine XS.ifNo X126.here hx rfl (hb hby at_130) rfl ((if0 _ _).trans (feq (by decide : ¬ ((1 : Int32) = (0 : Int32)))).1) ?_
        show Steps p.tables e below (T126.setTop (mkF m 133 #[iv p0_0, iv p0_1, iv p0_2, iv p0_3, iv p0_4, iv p0_5, iv (2 : Int32), .val (.long (cp.toInt64)), .second, iv (0 : Int32), rv b86, rv b_120] [])) _
        refine XS.iload X126.here hx rfl (hb hby at_133) rfl ?_
        refine XS.iconst X126.here hx rfl (hb hby at_135) ?_
        refine XS.icmpNo X126.here hx rfl (hb hby at_136) rfl (flt (by decide : ¬ ((2 : Int32) < (2 : Int32)))).1 ?_
        refine XS.aload X126.here hx rfl (hb hby at_139) rfl rfl ?_
        show Steps p.tables e below (T126.setTop (mkF m 141 #[iv p0_0, iv p0_1, iv p0_2, iv p0_3, iv p0_4, iv p0_5, iv (2 : Int32), .val (.long (cp.toInt64)), .second, iv (0 : Int32), rv b86, rv b_120] [(.ref b_120)])) _
        refine XS.iconst X126.here hx rfl (hb hby at_141) ?_
        refine XS.iloadN X126.here hx rfl (hb hby at_142) rfl ?_
        refine XS.iload X126.here hx rfl (hb hby at_143) rfl ?_
        show Steps p.tables e below (T126.setTop (mkF m 145 #[iv p0_0, iv p0_1, iv p0_2, iv p0_3, iv p0_4, iv p0_5, iv (2 : Int32), .val (.long (cp.toInt64)), .second, iv (0 : Int32), rv b86, rv b_120] [(.int (0 : Int32)), (.int p0_1), (.int (1 : Int32)), (.ref b_120)])) _
        refine st130 _ ?_
        show Steps p.tables e below (T130.setTop (mkF m 148 #[iv p0_0, iv p0_1, iv p0_2, iv p0_3, iv p0_4, iv p0_5, iv (2 : Int32), .val (.long (cp.toInt64)), .second, iv (0 : Int32), rv b86, rv b_120] [(.int (if ((nar .byte (((nar .byte (p0_1.toInt8.toInt32)) ^^^ (-1 : Int32)).toInt8.toInt32)) &&& (255 : Int32)) = (if (1 : Int32) < (0 : Int32) then (p0_1 &&& (255 : Int32)) else ((255 : Int32) - (p0_1 &&& (255 : Int32)))) then (1 : Int32) else (0 : Int32)))])) _
        rw [q132]
        show Steps p.tables e below (T130.setTop (mkF m 148 #[iv p0_0, iv p0_1, iv p0_2, iv p0_3, iv p0_4, iv p0_5, iv (2 : Int32), .val (.long (cp.toInt64)), .second, iv (0 : Int32), rv b86, rv b_120] [(.int (1 : Int32))])) _
        show Steps p.tables e below (T130.setTop (mkF m 148 #[iv p0_0, iv p0_1, iv p0_2, iv p0_3, iv p0_4, iv p0_5, iv (2 : Int32), .val (.long (cp.toInt64)), .second, iv (0 : Int32), rv b86, rv b_120] [(.int (1 : Int32))])) _
        refine XS.ifNo X130.here hx rfl (hb hby at_148) rfl ((if0 _ _).trans (feq (by decide : ¬ ((1 : Int32) = (0 : Int32)))).1) ?_
        refine XS.iload X130.here hx rfl (hb hby at_151) rfl ?_
        show Steps p.tables e below (T130.setTop (mkF m 153 #[iv p0_0, iv p0_1, iv p0_2, iv p0_3, iv p0_4, iv p0_5, iv (2 : Int32), .val (.long (cp.toInt64)), .second, iv (0 : Int32), rv b86, rv b_120] [(.int (2 : Int32))])) _
        refine XS.iconst X130.here hx rfl (hb hby at_153) ?_
        refine XS.icmpYes X130.here hx rfl (pc0 := 154) (pc' := 169) rfl (hb hby at_154) rfl (tlt (by decide : (2 : Int32) < (3 : Int32))).1 (by decide) (by decide) ?_
        refine XS.iload X130.here hx rfl (hb hby at_169) rfl ?_
        refine XS.iconst X130.here hx rfl (hb hby at_171) ?_
        show Steps p.tables e below (T130.setTop (mkF m 172 #[iv p0_0, iv p0_1, iv p0_2, iv p0_3, iv p0_4, iv p0_5, iv (2 : Int32), .val (.long (cp.toInt64)), .second, iv (0 : Int32), rv b86, rv b_120] [(.int (4 : Int32)), (.int (2 : Int32))])) _
        refine XS.icmpYes X130.here hx rfl (pc0 := 172) (pc' := 187) rfl (hb hby at_172) rfl (tlt (by decide : (2 : Int32) < (4 : Int32))).1 (by decide) (by decide) ?_
        refine XS.iconst X130.here hx rfl (hb hby at_187) ?_
        refine XS.goto X130.here hx rfl (pc0 := 188) (pc' := 192) rfl (hb hby at_188) (by decide) (by decide) ?_
        show Steps p.tables e below (T130.setTop (mkF m 192 #[iv p0_0, iv p0_1, iv p0_2, iv p0_3, iv p0_4, iv p0_5, iv (2 : Int32), .val (.long (cp.toInt64)), .second, iv (0 : Int32), rv b86, rv b_120] [(.int (1 : Int32))])) _
        exact retN X130 hx (t := .boolean) Bd.returns (by simp) (hb hby at_192) hr
      · show Q_rm0 Z _ _ _ _ _ _ h0 n0 _ T130.heap _
        rw [K130q]
        exact ⟨rfl, N131, (K124)⟩
    · skip
      have f134 := (Nat.le_trans f107 K106q.1)
      have f135 := (f105.keep K106q)
      obtain ⟨cq133, kq133, q133a, q133b, q133c⟩ := isOf hZ rfl f135
      obtain ⟨_, _, ⟨T133, L133, k133, n133⟩, -, X133, ⟨Lc133, hQ133, l133, y133, z133⟩, st133⟩ := X106.virtualBack hx (y := MN9) (z := MN9) hown (mvT hZ wo43) (mvT hZ wo44) (notFace_of_selects (args := #[]) (mvT hZ wo46)) (mvT hZ wo46) (mvT hZ wo45) (by decide) (backOf (W := 0) (rm_in2_1 l Z a0 hw [] b86 ar2_106 ln2_106 (nar .byte (p0_0.toInt8.toInt32)) (nar .byte (p0_1.toInt8.toInt32)) (T106.heap) n0 f134 hq106_1 hq106_2 hq106_3 hq106_4 hq106_5 (hq106_6 : (2 : Int32).toInt ≤ ln2_106.toInt)) hZ wo47 wo3 (by decide) (by decide)) q133a q133c (g := (mkF m 95 #[iv p0_0, iv p0_1, iv p0_2, iv p0_3, iv p0_4, iv p0_5, iv (2 : Int32), .val (.long (cp.toInt64)), .second, iv (1 : Int32), rv b86, .unset] [(.int (1 : Int32)), (.ref b86)])) rfl (by rw [hml]; rfl) (Steps.refl _) (argsL := [(.int (1 : Int32))]) (rest := []) (lenOf pd_2 rfl) rfl (by show 2 * 0 + _ ≤ _; exact Nat.le_of_eq rfl) (hb hby at_95) (fun _ _ => ⟨rfl, rfl, (by decide : 4 + 0 ≤ _), (by decide : 12 + 0 ≤ _)⟩)
      dsimp only [Pt.U, Pt.locs, Pt.cells, Pt.slots] at X133 l133 y133 z133 st133 hQ133
      rw [l133, y133, z133] at X133
      obtain ⟨rfl, N133q, K133q, hq133_0⟩ := hQ133
      have N136 := Fr.app N108 N133q
      have K137 : Keep h0 T133.heap [] := (K109).trans K133q (allS (P := fun x => x ∈ [] ∨ h0.size ≤ x) (Or.inr bz110) all0)
      have f138 := (hq106_3.keep K133q (ninS hq106_2 nin0))
      have f139 := (hq106_4.keep K133q (ninS hq106_2 nin0))
      have f141 := (Nat.le_trans f134 K133q.1)
      have f142 := (f135.keep K133q)
      obtain ⟨cq140, kq140, q140a, q140b, q140c⟩ := isOf hZ rfl f142
      obtain ⟨_, _, ⟨T140, L140, k140, n140⟩, -, X140, ⟨Lc140, hQ140, l140, y140, z140⟩, st140⟩ := X133.virtualBack hx (y := MN10) (z := MN10) hown (mvT hZ wo48) (mvT hZ wo49) (notFace_of_selects (args := #[]) (mvT hZ wo51)) (mvT hZ wo51) (mvT hZ wo50) (by decide) (backOf (W := 0) (rm_tb2 l Z a0 hw [] b86 ar2_106 ln2_106 (nar .byte (p0_0.toInt8.toInt32)) (nar .byte (((nar .byte (p0_1.toInt8.toInt32)) ^^^ (-1 : Int32)).toInt8.toInt32)) (T133.heap) n0 f141 f138 f139 hq133_0 (hq106_6 : (2 : Int32).toInt ≤ ln2_106.toInt)) hZ wo52 wo3 (by decide) (by decide)) q140a q140c (g := (mkF m 100 #[iv p0_0, iv p0_1, iv p0_2, iv p0_3, iv p0_4, iv p0_5, iv (2 : Int32), .val (.long (cp.toInt64)), .second, iv (1 : Int32), rv b86, .unset] [(.ref b86)])) rfl (by rw [hml]; rfl) (Steps.refl _) (argsL := []) (rest := []) (lenOf pd_1 rfl) rfl (by show 2 * 0 + _ ≤ _; exact Nat.le_of_eq rfl) (hb hby at_100) (fun _ _ => ⟨rfl, rfl, (by decide : 4 + 1 ≤ _), (by decide : 12 + 2 ≤ _)⟩)
      dsimp only [Pt.U, Pt.locs, Pt.cells, Pt.slots] at X140 l140 y140 z140 st140 hQ140
      rw [l140, y140, z140] at X140
      obtain ⟨b_140, rfl, N140q, K140q, hq140_0⟩ := hQ140
      have N143 := Fr.app N136 N140q
      have K144 : Keep h0 T140.heap [] := (K137).trans K140q all0
      obtain ⟨kk145, cl145, Ar145, qq145, Sz145, Nn145, Hs145, Gf145⟩ := id hq140_0
      have f147 := (Nat.le_trans f141 K140q.1)
      obtain ⟨_, _, ⟨T146, L146, k146, n146⟩, -, X146, ⟨Lc146, hQ146, l146, y146, z146⟩, st146⟩ := Jvm.LawKit.callS X140 hx (y := MN11) hown (mvT hZ wo53) (mvT hZ wo54) (mvT hZ wo55) (mvT hZ wo56) (by decide) (backOf (W := 0) (rm_ok2_0 l Z a0 hw [] b_140 p0_0 (1 : Int32) (nar .byte (p0_0.toInt8.toInt32)) (nar .byte (((nar .byte (p0_1.toInt8.toInt32)) ^^^ (-1 : Int32)).toInt8.toInt32)) (T140.heap) n0 f147 hq140_0) hZ wo56 wo55 (by decide) (by decide)) (g := (mkF m 127 #[iv p0_0, iv p0_1, iv p0_2, iv p0_3, iv p0_4, iv p0_5, iv (2 : Int32), .val (.long (cp.toInt64)), .second, iv (1 : Int32), rv b86, rv b_140] [(.int (1 : Int32)), (.int p0_0), (.int (0 : Int32)), (.ref b_140)])) rfl (by rw [hml]; rfl) (argsL := [(.ref b_140), (.int (0 : Int32)), (.int p0_0), (.int (1 : Int32))]) (rest := []) (lenOf pd_8 rfl) rfl (by show 2 * 0 + _ ≤ _; exact Nat.le_of_eq rfl) (hb hby at_127) (fun _ _ => ⟨rfl, rfl, (by decide : 5 + 0 ≤ _), (by decide : 14 + 0 ≤ _)⟩)
      dsimp only [Pt.U, Pt.locs, Pt.cells, Pt.slots] at X146 l146 y146 z146 st146 hQ146
      rw [l146, y146, z146] at X146
      obtain ⟨rfl, N146q, K146q⟩ := hQ146
      have N148 := Fr.app N143 N146q
      have q149 : (if ((nar .byte (p0_0.toInt8.toInt32)) &&& (255 : Int32)) = (if (0 : Int32) < (1 : Int32) then (p0_0 &&& (255 : Int32)) else ((255 : Int32) - (p0_0 &&& (255 : Int32)))) then (1 : Int32) else (0 : Int32)) = (1 : Int32) := if_pos ((own_k1 _).trans (if_pos (by decide)).symm)
      obtain ⟨_, _, ⟨T150, L150, k150, n150⟩, -, X150, ⟨Lc150, hQ150, l150, y150, z150⟩, st150⟩ := Jvm.LawKit.callS X146 hx (y := MN11) hown (mvT hZ wo53) (mvT hZ wo54) (mvT hZ wo55) (mvT hZ wo56) (by decide) (backOf (W := 0) (rm_ok2_1 l Z a0 hw [] b_140 p0_1 (1 : Int32) (nar .byte (p0_0.toInt8.toInt32)) (nar .byte (((nar .byte (p0_1.toInt8.toInt32)) ^^^ (-1 : Int32)).toInt8.toInt32)) (T140.heap) n0 f147 hq140_0) hZ wo56 wo55 (by decide) (by decide)) (g := (mkF m 145 #[iv p0_0, iv p0_1, iv p0_2, iv p0_3, iv p0_4, iv p0_5, iv (2 : Int32), .val (.long (cp.toInt64)), .second, iv (1 : Int32), rv b86, rv b_140] [(.int (1 : Int32)), (.int p0_1), (.int (1 : Int32)), (.ref b_140)])) rfl (by rw [hml]; rfl) (argsL := [(.ref b_140), (.int (1 : Int32)), (.int p0_1), (.int (1 : Int32))]) (rest := []) (lenOf pd_8 rfl) rfl (by show 2 * 0 + _ ≤ _; exact Nat.le_of_eq rfl) (hb hby at_145) (fun _ _ => ⟨rfl, K146q, (by decide : 5 + 0 ≤ _), (by decide : 14 + 0 ≤ _)⟩)
      dsimp only [Pt.U, Pt.locs, Pt.cells, Pt.slots] at X150 l150 y150 z150 st150 hQ150
      rw [l150, y150, z150] at X150
      obtain ⟨rfl, N150q, K150q⟩ := hQ150
      have N151 := Fr.app N148 N150q
      have q152 : (if ((nar .byte (((nar .byte (p0_1.toInt8.toInt32)) ^^^ (-1 : Int32)).toInt8.toInt32)) &&& (255 : Int32)) = (if (1 : Int32) < (1 : Int32) then (p0_1 &&& (255 : Int32)) else ((255 : Int32) - (p0_1 &&& (255 : Int32)))) then (1 : Int32) else (0 : Int32)) = (1 : Int32) := if_pos ((own_k2 _).trans (if_neg (by decide)).symm)
      obtain ⟨fs, hr, hrun, hended, hW, hsame⟩ := X150.leave (v := some (.int (1 : Int32))) (fun h => by rw [Bd.returns] at h; cases h)
      refine ⟨_, _, pre111 _ ?_, hrun, hended, _, _, rfl, ?_, ⟨_, rfl⟩, hW, hsame.mono (by decide) (by decide)⟩
      · show Steps p.tables e below (T106.setTop (mkF m 93 #[iv p0_0, iv p0_1, iv p0_2, iv p0_3, iv p0_4, iv p0_5, iv (2 : Int32), .val (.long (cp.toInt64)), .second, iv (1 : Int32), rv b86, .unset] [(.ref b86)])) _
        refine XS.iload X106.here hx rfl (hb hby at_93) rfl ?_
        show Steps p.tables e below (T106.setTop (mkF m 95 #[iv p0_0, iv p0_1, iv p0_2, iv p0_3, iv p0_4, iv p0_5, iv (2 : Int32), .val (.long (cp.toInt64)), .second, iv (1 : Int32), rv b86, .unset] [(.int (1 : Int32)), (.ref b86)])) _
        refine st133.trans ?_
        show Steps p.tables e below (T133.setTop (mkF m 98 #[iv p0_0, iv p0_1, iv p0_2, iv p0_3, iv p0_4, iv p0_5, iv (2 : Int32), .val (.long (cp.toInt64)), .second, iv (1 : Int32), rv b86, .unset] [])) _
        refine XS.aload X133.here hx rfl (hb hby at_98) rfl rfl ?_
        show Steps p.tables e below (T133.setTop (mkF m 100 #[iv p0_0, iv p0_1, iv p0_2, iv p0_3, iv p0_4, iv p0_5, iv (2 : Int32), .val (.long (cp.toInt64)), .second, iv (1 : Int32), rv b86, .unset] [(.ref b86)])) _
        refine st140.trans ?_
        show Steps p.tables e below (T140.setTop (mkF m 103 #[iv p0_0, iv p0_1, iv p0_2, iv p0_3, iv p0_4, iv p0_5, iv (2 : Int32), .val (.long (cp.toInt64)), .second, iv (1 : Int32), rv b86, .unset] [(.ref b_140)])) _
        refine XS.astore X140.here hx rfl (hb hby at_103) rfl rfl (l' := #[iv p0_0, iv p0_1, iv p0_2, iv p0_3, iv p0_4, iv p0_5, iv (2 : Int32), .val (.long (cp.toInt64)), .second, iv (1 : Int32), rv b86, rv b_140]) rfl ?_
        show Steps p.tables e below (T140.setTop (mkF m 105 #[iv p0_0, iv p0_1, iv p0_2, iv p0_3, iv p0_4, iv p0_5, iv (2 : Int32), .val (.long (cp.toInt64)), .second, iv (1 : Int32), rv b86, rv b_140] [])) _
        refine XS.aload X140.here hx rfl (hb hby at_105) rfl rfl ?_
        show Steps p.tables e below (T140.setTop (mkF m 107 #[iv p0_0, iv p0_1, iv p0_2, iv p0_3, iv p0_4, iv p0_5, iv (2 : Int32), .val (.long (cp.toInt64)), .second, iv (1 : Int32), rv b86, rv b_140] [(.ref b_140)])) _
        refine X140.arraylength hx (Ar145.1) (State.isArrayOf_alike hZ.alike Ar145.2.1) (g := (mkF m 107 #[iv p0_0, iv p0_1, iv p0_2, iv p0_3, iv p0_4, iv p0_5, iv (2 : Int32), .val (.long (cp.toInt64)), .second, iv (1 : Int32), rv b86, rv b_140] [(.ref b_140)])) rfl rfl (hb hby at_107) _ ?_
        rw [len_of Sz145 Nn145]
        show Steps p.tables e below (T140.setTop (mkF m 108 #[iv p0_0, iv p0_1, iv p0_2, iv p0_3, iv p0_4, iv p0_5, iv (2 : Int32), .val (.long (cp.toInt64)), .second, iv (1 : Int32), rv b86, rv b_140] [(.int (2 : Int32))])) _
        refine XS.iload X140.here hx rfl (hb hby at_108) rfl ?_
        refine XS.icmpYes X140.here hx rfl (pc0 := 110) (pc' := 115) rfl (hb hby at_110) rfl (teq (by decide : (2 : Int32) = (2 : Int32))).1 (by decide) (by decide) ?_
        show Steps p.tables e below (T140.setTop (mkF m 115 #[iv p0_0, iv p0_1, iv p0_2, iv p0_3, iv p0_4, iv p0_5, iv (2 : Int32), .val (.long (cp.toInt64)), .second, iv (1 : Int32), rv b86, rv b_140] [])) _
        refine XS.iload X140.here hx rfl (hb hby at_115) rfl ?_
        refine XS.iconst X140.here hx rfl (hb hby at_117) ?_
        refine XS.icmpNo X140.here hx rfl (hb hby at_118) rfl (flt (by decide : ¬ ((2 : Int32) < (1 : Int32)))).1 ?_
        refine XS.aload X140.here hx rfl (hb hby at_121) rfl rfl ?_
        show Steps p.tables e below (T140.setTop (mkF m 123 #[iv p0_0, iv p0_1, iv p0_2, iv p0_3, iv p0_4, iv p0_5, iv (2 : Int32), .val (.long (cp.toInt64)), .second, iv (1 : Int32), rv b86, rv b_140] [(.ref b_140)])) _
        refine XS.iconst X140.here hx rfl (hb hby at_123) ?_
        refine XS.iloadN X140.here hx rfl (hb hby at_124) rfl ?_
        refine XS.iload X140.here hx rfl (hb hby at_125) rfl ?_
        show Steps p.tables e below (T140.setTop (mkF m 127 #[iv p0_0, iv p0_1, iv p0_2, iv p0_3, iv p0_4, iv p0_5, iv (2 : Int32), .val (.long (cp.toInt64)), .second, iv (1 : Int32), rv b86, rv b_140] [(.int (1 : Int32)), (.int p0_0), (.int (0 : Int32)), (.ref b_140)])) _
        refine st146 _ ?_
        show Steps p.tables e below (T146.setTop (mkF m 130 #[iv p0_0, iv p0_1, iv p0_2, iv p0_3, iv p0_4, iv p0_5, iv (2 : Int32), .val (.long (cp.toInt64)), .second, iv (1 : Int32), rv b86, rv b_140] [(.int (if ((nar .byte (p0_0.toInt8.toInt32)) &&& (255 : Int32)) = (if (0 : Int32) < (1 : Int32) then (p0_0 &&& (255 : Int32)) else ((255 : Int32) - (p0_0 &&& (255 : Int32)))) then (1 : Int32) else (0 : Int32)))])) _
        rw [q149]
        show Steps p.tables e below (T146.setTop (mkF m 130 #[iv p0_0, iv p0_1, iv p0_2, iv p0_3, iv p0_4, iv p0_5, iv (2 : Int32), .val (.long (cp.toInt64)), .second, iv (1 : Int32), rv b86, rv b_140] [(.int (1 : Int32))])) _
        show Steps p.tables e below (T146.setTop (mkF m 130 #[iv p0_0, iv p0_1, iv p0_2, iv p0_3, iv p0_4, iv p0_5, iv (2 : Int32), .val (.long (cp.toInt64)), .second, iv (1 : Int32), rv b86, rv b_140] [(.int (1 : Int32))])) _
        refine XS.ifNo X146.here hx rfl (hb hby at_130) rfl ((if0 _ _).trans (feq (by decide : ¬ ((1 : Int32) = (0 : Int32)))).1) ?_
        refine XS.iload X146.here hx rfl (hb hby at_133) rfl ?_
        show Steps p.tables e below (T146.setTop (mkF m 135 #[iv p0_0, iv p0_1, iv p0_2, iv p0_3, iv p0_4, iv p0_5, iv (2 : Int32), .val (.long (cp.toInt64)), .second, iv (1 : Int32), rv b86, rv b_140] [(.int (2 : Int32))])) _
        refine XS.iconst X146.here hx rfl (hb hby at_135) ?_
        refine XS.icmpNo X146.here hx rfl (hb hby at_136) rfl (flt (by decide : ¬ ((2 : Int32) < (2 : Int32)))).1 ?_
        refine XS.aload X146.here hx rfl (hb hby at_139) rfl rfl ?_
        refine XS.iconst X146.here hx rfl (hb hby at_141) ?_
        show Steps p.tables e below (T146.setTop (mkF m 142 #[iv p0_0, iv p0_1, iv p0_2, iv p0_3, iv p0_4, iv p0_5, iv (2 : Int32), .val (.long (cp.toInt64)), .second, iv (1 : Int32), rv b86, rv b_140] [(.int (1 : Int32)), (.ref b_140)])) _
        refine XS.iloadN X146.here hx rfl (hb hby at_142) rfl ?_
        refine XS.iload X146.here hx rfl (hb hby at_143) rfl ?_
        show Steps p.tables e below (T146.setTop (mkF m 145 #[iv p0_0, iv p0_1, iv p0_2, iv p0_3, iv p0_4, iv p0_5, iv (2 : Int32), .val (.long (cp.toInt64)), .second, iv (1 : Int32), rv b86, rv b_140] [(.int (1 : Int32)), (.int p0_1), (.int (1 : Int32)), (.ref b_140)])) _
        refine st150 _ ?_
        show Steps p.tables e below (T150.setTop (mkF m 148 #[iv p0_0, iv p0_1, iv p0_2, iv p0_3, iv p0_4, iv p0_5, iv (2 : Int32), .val (.long (cp.toInt64)), .second, iv (1 : Int32), rv b86, rv b_140] [(.int (if ((nar .byte (((nar .byte (p0_1.toInt8.toInt32)) ^^^ (-1 : Int32)).toInt8.toInt32)) &&& (255 : Int32)) = (if (1 : Int32) < (1 : Int32) then (p0_1 &&& (255 : Int32)) else ((255 : Int32) - (p0_1 &&& (255 : Int32)))) then (1 : Int32) else (0 : Int32)))])) _
        rw [q152]
        show Steps p.tables e below (T150.setTop (mkF m 148 #[iv p0_0, iv p0_1, iv p0_2, iv p0_3, iv p0_4, iv p0_5, iv (2 : Int32), .val (.long (cp.toInt64)), .second, iv (1 : Int32), rv b86, rv b_140] [(.int (1 : Int32))])) _
        show Steps p.tables e below (T150.setTop (mkF m 148 #[iv p0_0, iv p0_1, iv p0_2, iv p0_3, iv p0_4, iv p0_5, iv (2 : Int32), .val (.long (cp.toInt64)), .second, iv (1 : Int32), rv b86, rv b_140] [(.int (1 : Int32))])) _
        refine XS.ifNo X150.here hx rfl (hb hby at_148) rfl ((if0 _ _).trans (feq (by decide : ¬ ((1 : Int32) = (0 : Int32)))).1) ?_
        refine XS.iload X150.here hx rfl (hb hby at_151) rfl ?_
        refine XS.iconst X150.here hx rfl (hb hby at_153) ?_
        show Steps p.tables e below (T150.setTop (mkF m 154 #[iv p0_0, iv p0_1, iv p0_2, iv p0_3, iv p0_4, iv p0_5, iv (2 : Int32), .val (.long (cp.toInt64)), .second, iv (1 : Int32), rv b86, rv b_140] [(.int (3 : Int32)), (.int (2 : Int32))])) _
        refine XS.icmpYes X150.here hx rfl (pc0 := 154) (pc' := 169) rfl (hb hby at_154) rfl (tlt (by decide : (2 : Int32) < (3 : Int32))).1 (by decide) (by decide) ?_
        refine XS.iload X150.here hx rfl (hb hby at_169) rfl ?_
        refine XS.iconst X150.here hx rfl (hb hby at_171) ?_
        refine XS.icmpYes X150.here hx rfl (pc0 := 172) (pc' := 187) rfl (hb hby at_172) rfl (tlt (by decide : (2 : Int32) < (4 : Int32))).1 (by decide) (by decide) ?_
        show Steps p.tables e below (T150.setTop (mkF m 187 #[iv p0_0, iv p0_1, iv p0_2, iv p0_3, iv p0_4, iv p0_5, iv (2 : Int32), .val (.long (cp.toInt64)), .second, iv (1 : Int32), rv b86, rv b_140] [])) _
        refine XS.iconst X150.here hx rfl (hb hby at_187) ?_
        refine XS.goto X150.here hx rfl (pc0 := 188) (pc' := 192) rfl (hb hby at_188) (by decide) (by decide) ?_
        show Steps p.tables e below (T150.setTop (mkF m 192 #[iv p0_0, iv p0_1, iv p0_2, iv p0_3, iv p0_4, iv p0_5, iv (2 : Int32), .val (.long (cp.toInt64)), .second, iv (1 : Int32), rv b86, rv b_140] [(.int (1 : Int32))])) _
        exact retN X150 hx (t := .boolean) Bd.returns (by simp) (hb hby at_192) hr
      · show Q_rm0 Z _ _ _ _ _ _ h0 n0 _ T150.heap _
        rw [K150q]
        exact ⟨rfl, N151, (K144)⟩
    · skip
      have f154 := (Nat.le_trans f107 K106q.1)
      have f155 := (f105.keep K106q)
      obtain ⟨cq153, kq153, q153a, q153b, q153c⟩ := isOf hZ rfl f155
      obtain ⟨_, _, ⟨T153, L153, k153, n153⟩, -, X153, ⟨Lc153, hQ153, l153, y153, z153⟩, st153⟩ := X106.virtualBack hx (y := MN9) (z := MN9) hown (mvT hZ wo43) (mvT hZ wo44) (notFace_of_selects (args := #[]) (mvT hZ wo46)) (mvT hZ wo46) (mvT hZ wo45) (by decide) (backOf (W := 0) (rm_in2_2 l Z a0 hw [] b86 ar2_106 ln2_106 (nar .byte (p0_0.toInt8.toInt32)) (nar .byte (p0_1.toInt8.toInt32)) (T106.heap) n0 f154 hq106_1 hq106_2 hq106_3 hq106_4 hq106_5 (hq106_6 : (2 : Int32).toInt ≤ ln2_106.toInt)) hZ wo47 wo3 (by decide) (by decide)) q153a q153c (g := (mkF m 95 #[iv p0_0, iv p0_1, iv p0_2, iv p0_3, iv p0_4, iv p0_5, iv (2 : Int32), .val (.long (cp.toInt64)), .second, iv (2 : Int32), rv b86, .unset] [(.int (2 : Int32)), (.ref b86)])) rfl (by rw [hml]; rfl) (Steps.refl _) (argsL := [(.int (2 : Int32))]) (rest := []) (lenOf pd_2 rfl) rfl (by show 2 * 0 + _ ≤ _; exact Nat.le_of_eq rfl) (hb hby at_95) (fun _ _ => ⟨rfl, rfl, (by decide : 4 + 0 ≤ _), (by decide : 12 + 0 ≤ _)⟩)
      dsimp only [Pt.U, Pt.locs, Pt.cells, Pt.slots] at X153 l153 y153 z153 st153 hQ153
      rw [l153, y153, z153] at X153
      obtain ⟨rfl, N153q, K153q, hq153_0⟩ := hQ153
      have N156 := Fr.app N108 N153q
      have K157 : Keep h0 T153.heap [] := (K109).trans K153q (allS (P := fun x => x ∈ [] ∨ h0.size ≤ x) (Or.inr bz110) all0)
      have f158 := (hq106_3.keep K153q (ninS hq106_2 nin0))
      have f159 := (hq106_4.keep K153q (ninS hq106_2 nin0))
      have f161 := (Nat.le_trans f154 K153q.1)
      have f162 := (f155.keep K153q)
      obtain ⟨cq160, kq160, q160a, q160b, q160c⟩ := isOf hZ rfl f162
      obtain ⟨_, _, ⟨T160, L160, k160, n160⟩, -, X160, ⟨Lc160, hQ160, l160, y160, z160⟩, st160⟩ := X153.virtualBack hx (y := MN10) (z := MN10) hown (mvT hZ wo48) (mvT hZ wo49) (notFace_of_selects (args := #[]) (mvT hZ wo51)) (mvT hZ wo51) (mvT hZ wo50) (by decide) (backOf (W := 0) (rm_tb2 l Z a0 hw [] b86 ar2_106 ln2_106 (nar .byte (p0_0.toInt8.toInt32)) (nar .byte (p0_1.toInt8.toInt32)) (T153.heap) n0 f161 f158 f159 hq153_0 (hq106_6 : (2 : Int32).toInt ≤ ln2_106.toInt)) hZ wo52 wo3 (by decide) (by decide)) q160a q160c (g := (mkF m 100 #[iv p0_0, iv p0_1, iv p0_2, iv p0_3, iv p0_4, iv p0_5, iv (2 : Int32), .val (.long (cp.toInt64)), .second, iv (2 : Int32), rv b86, .unset] [(.ref b86)])) rfl (by rw [hml]; rfl) (Steps.refl _) (argsL := []) (rest := []) (lenOf pd_1 rfl) rfl (by show 2 * 0 + _ ≤ _; exact Nat.le_of_eq rfl) (hb hby at_100) (fun _ _ => ⟨rfl, rfl, (by decide : 4 + 1 ≤ _), (by decide : 12 + 2 ≤ _)⟩)
      dsimp only [Pt.U, Pt.locs, Pt.cells, Pt.slots] at X160 l160 y160 z160 st160 hQ160
      rw [l160, y160, z160] at X160
      obtain ⟨b_160, rfl, N160q, K160q, hq160_0⟩ := hQ160
      have N163 := Fr.app N156 N160q
      have K164 : Keep h0 T160.heap [] := (K157).trans K160q all0
      obtain ⟨kk165, cl165, Ar165, qq165, Sz165, Nn165, Hs165, Gf165⟩ := id hq160_0
      have f167 := (Nat.le_trans f161 K160q.1)
      obtain ⟨_, _, ⟨T166, L166, k166, n166⟩, -, X166, ⟨Lc166, hQ166, l166, y166, z166⟩, st166⟩ := Jvm.LawKit.callS X160 hx (y := MN11) hown (mvT hZ wo53) (mvT hZ wo54) (mvT hZ wo55) (mvT hZ wo56) (by decide) (backOf (W := 0) (rm_ok2_0 l Z a0 hw [] b_160 p0_0 (2 : Int32) (nar .byte (p0_0.toInt8.toInt32)) (nar .byte (p0_1.toInt8.toInt32)) (T160.heap) n0 f167 hq160_0) hZ wo56 wo55 (by decide) (by decide)) (g := (mkF m 127 #[iv p0_0, iv p0_1, iv p0_2, iv p0_3, iv p0_4, iv p0_5, iv (2 : Int32), .val (.long (cp.toInt64)), .second, iv (2 : Int32), rv b86, rv b_160] [(.int (2 : Int32)), (.int p0_0), (.int (0 : Int32)), (.ref b_160)])) rfl (by rw [hml]; rfl) (argsL := [(.ref b_160), (.int (0 : Int32)), (.int p0_0), (.int (2 : Int32))]) (rest := []) (lenOf pd_8 rfl) rfl (by show 2 * 0 + _ ≤ _; exact Nat.le_of_eq rfl) (hb hby at_127) (fun _ _ => ⟨rfl, rfl, (by decide : 5 + 0 ≤ _), (by decide : 14 + 0 ≤ _)⟩)
      dsimp only [Pt.U, Pt.locs, Pt.cells, Pt.slots] at X166 l166 y166 z166 st166 hQ166
      rw [l166, y166, z166] at X166
      obtain ⟨rfl, N166q, K166q⟩ := hQ166
      have N168 := Fr.app N163 N166q
      have q169 : (if ((nar .byte (p0_0.toInt8.toInt32)) &&& (255 : Int32)) = (if (0 : Int32) < (2 : Int32) then (p0_0 &&& (255 : Int32)) else ((255 : Int32) - (p0_0 &&& (255 : Int32)))) then (1 : Int32) else (0 : Int32)) = (1 : Int32) := if_pos ((own_k1 _).trans (if_pos (by decide)).symm)
      obtain ⟨_, _, ⟨T170, L170, k170, n170⟩, -, X170, ⟨Lc170, hQ170, l170, y170, z170⟩, st170⟩ := Jvm.LawKit.callS X166 hx (y := MN11) hown (mvT hZ wo53) (mvT hZ wo54) (mvT hZ wo55) (mvT hZ wo56) (by decide) (backOf (W := 0) (rm_ok2_1 l Z a0 hw [] b_160 p0_1 (2 : Int32) (nar .byte (p0_0.toInt8.toInt32)) (nar .byte (p0_1.toInt8.toInt32)) (T160.heap) n0 f167 hq160_0) hZ wo56 wo55 (by decide) (by decide)) (g := (mkF m 145 #[iv p0_0, iv p0_1, iv p0_2, iv p0_3, iv p0_4, iv p0_5, iv (2 : Int32), .val (.long (cp.toInt64)), .second, iv (2 : Int32), rv b86, rv b_160] [(.int (2 : Int32)), (.int p0_1), (.int (1 : Int32)), (.ref b_160)])) rfl (by rw [hml]; rfl) (argsL := [(.ref b_160), (.int (1 : Int32)), (.int p0_1), (.int (2 : Int32))]) (rest := []) (lenOf pd_8 rfl) rfl (by show 2 * 0 + _ ≤ _; exact Nat.le_of_eq rfl) (hb hby at_145) (fun _ _ => ⟨rfl, K166q, (by decide : 5 + 0 ≤ _), (by decide : 14 + 0 ≤ _)⟩)
      dsimp only [Pt.U, Pt.locs, Pt.cells, Pt.slots] at X170 l170 y170 z170 st170 hQ170
      rw [l170, y170, z170] at X170
      obtain ⟨rfl, N170q, K170q⟩ := hQ170
      have N171 := Fr.app N168 N170q
      have q172 : (if ((nar .byte (p0_1.toInt8.toInt32)) &&& (255 : Int32)) = (if (1 : Int32) < (2 : Int32) then (p0_1 &&& (255 : Int32)) else ((255 : Int32) - (p0_1 &&& (255 : Int32)))) then (1 : Int32) else (0 : Int32)) = (1 : Int32) := if_pos ((own_k1 _).trans (if_pos (by decide)).symm)
      obtain ⟨fs, hr, hrun, hended, hW, hsame⟩ := X170.leave (v := some (.int (1 : Int32))) (fun h => by rw [Bd.returns] at h; cases h)
      refine ⟨_, _, pre111 _ ?_, hrun, hended, _, _, rfl, ?_, ⟨_, rfl⟩, hW, hsame.mono (by decide) (by decide)⟩
      · show Steps p.tables e below (T106.setTop (mkF m 93 #[iv p0_0, iv p0_1, iv p0_2, iv p0_3, iv p0_4, iv p0_5, iv (2 : Int32), .val (.long (cp.toInt64)), .second, iv (2 : Int32), rv b86, .unset] [(.ref b86)])) _
        refine XS.iload X106.here hx rfl (hb hby at_93) rfl ?_
        show Steps p.tables e below (T106.setTop (mkF m 95 #[iv p0_0, iv p0_1, iv p0_2, iv p0_3, iv p0_4, iv p0_5, iv (2 : Int32), .val (.long (cp.toInt64)), .second, iv (2 : Int32), rv b86, .unset] [(.int (2 : Int32)), (.ref b86)])) _
        refine st153.trans ?_
        show Steps p.tables e below (T153.setTop (mkF m 98 #[iv p0_0, iv p0_1, iv p0_2, iv p0_3, iv p0_4, iv p0_5, iv (2 : Int32), .val (.long (cp.toInt64)), .second, iv (2 : Int32), rv b86, .unset] [])) _
        refine XS.aload X153.here hx rfl (hb hby at_98) rfl rfl ?_
        show Steps p.tables e below (T153.setTop (mkF m 100 #[iv p0_0, iv p0_1, iv p0_2, iv p0_3, iv p0_4, iv p0_5, iv (2 : Int32), .val (.long (cp.toInt64)), .second, iv (2 : Int32), rv b86, .unset] [(.ref b86)])) _
        refine st160.trans ?_
        show Steps p.tables e below (T160.setTop (mkF m 103 #[iv p0_0, iv p0_1, iv p0_2, iv p0_3, iv p0_4, iv p0_5, iv (2 : Int32), .val (.long (cp.toInt64)), .second, iv (2 : Int32), rv b86, .unset] [(.ref b_160)])) _
        refine XS.astore X160.here hx rfl (hb hby at_103) rfl rfl (l' := #[iv p0_0, iv p0_1, iv p0_2, iv p0_3, iv p0_4, iv p0_5, iv (2 : Int32), .val (.long (cp.toInt64)), .second, iv (2 : Int32), rv b86, rv b_160]) rfl ?_
        refine XS.aload X160.here hx rfl (hb hby at_105) rfl rfl ?_
        show Steps p.tables e below (T160.setTop (mkF m 107 #[iv p0_0, iv p0_1, iv p0_2, iv p0_3, iv p0_4, iv p0_5, iv (2 : Int32), .val (.long (cp.toInt64)), .second, iv (2 : Int32), rv b86, rv b_160] [(.ref b_160)])) _
        refine X160.arraylength hx (Ar165.1) (State.isArrayOf_alike hZ.alike Ar165.2.1) (g := (mkF m 107 #[iv p0_0, iv p0_1, iv p0_2, iv p0_3, iv p0_4, iv p0_5, iv (2 : Int32), .val (.long (cp.toInt64)), .second, iv (2 : Int32), rv b86, rv b_160] [(.ref b_160)])) rfl rfl (hb hby at_107) _ ?_
        rw [len_of Sz165 Nn165]
        show Steps p.tables e below (T160.setTop (mkF m 108 #[iv p0_0, iv p0_1, iv p0_2, iv p0_3, iv p0_4, iv p0_5, iv (2 : Int32), .val (.long (cp.toInt64)), .second, iv (2 : Int32), rv b86, rv b_160] [(.int (2 : Int32))])) _
        refine XS.iload X160.here hx rfl (hb hby at_108) rfl ?_
        refine XS.icmpYes X160.here hx rfl (pc0 := 110) (pc' := 115) rfl (hb hby at_110) rfl (teq (by decide : (2 : Int32) = (2 : Int32))).1 (by decide) (by decide) ?_
        refine XS.iload X160.here hx rfl (hb hby at_115) rfl ?_
        show Steps p.tables e below (T160.setTop (mkF m 117 #[iv p0_0, iv p0_1, iv p0_2, iv p0_3, iv p0_4, iv p0_5, iv (2 : Int32), .val (.long (cp.toInt64)), .second, iv (2 : Int32), rv b86, rv b_160] [(.int (2 : Int32))])) _
        refine XS.iconst X160.here hx rfl (hb hby at_117) ?_
        refine XS.icmpNo X160.here hx rfl (hb hby at_118) rfl (flt (by decide : ¬ ((2 : Int32) < (1 : Int32)))).1 ?_
        refine XS.aload X160.here hx rfl (hb hby at_121) rfl rfl ?_
        refine XS.iconst X160.here hx rfl (hb hby at_123) ?_
        show Steps p.tables e below (T160.setTop (mkF m 124 #[iv p0_0, iv p0_1, iv p0_2, iv p0_3, iv p0_4, iv p0_5, iv (2 : Int32), .val (.long (cp.toInt64)), .second, iv (2 : Int32), rv b86, rv b_160] [(.int (0 : Int32)), (.ref b_160)])) _
        refine XS.iloadN X160.here hx rfl (hb hby at_124) rfl ?_
        refine XS.iload X160.here hx rfl (hb hby at_125) rfl ?_
        show Steps p.tables e below (T160.setTop (mkF m 127 #[iv p0_0, iv p0_1, iv p0_2, iv p0_3, iv p0_4, iv p0_5, iv (2 : Int32), .val (.long (cp.toInt64)), .second, iv (2 : Int32), rv b86, rv b_160] [(.int (2 : Int32)), (.int p0_0), (.int (0 : Int32)), (.ref b_160)])) _
        refine st166 _ ?_
        show Steps p.tables e below (T166.setTop (mkF m 130 #[iv p0_0, iv p0_1, iv p0_2, iv p0_3, iv p0_4, iv p0_5, iv (2 : Int32), .val (.long (cp.toInt64)), .second, iv (2 : Int32), rv b86, rv b_160] [(.int (if ((nar .byte (p0_0.toInt8.toInt32)) &&& (255 : Int32)) = (if (0 : Int32) < (2 : Int32) then (p0_0 &&& (255 : Int32)) else ((255 : Int32) - (p0_0 &&& (255 : Int32)))) then (1 : Int32) else (0 : Int32)))])) _
        rw [q169]
        show Steps p.tables e below (T166.setTop (mkF m 130 #[iv p0_0, iv p0_1, iv p0_2, iv p0_3, iv p0_4, iv p0_5, iv (2 : Int32), .val (.long (cp.toInt64)), .second, iv (2 : Int32), rv b86, rv b_160] [(.int (1 : Int32))])) _
        show Steps p.tables e below (T166.setTop (mkF m 130 #[iv p0_0, iv p0_1, iv p0_2, iv p0_3, iv p0_4, iv p0_5, iv (2 : Int32), .val (.long (cp.toInt64)), .second, iv (2 : Int32), rv b86, rv b_160] [(.int (1 : Int32))])) _
        refine XS.ifNo X166.here hx rfl (hb hby at_130) rfl ((if0 _ _).trans (feq (by decide : ¬ ((1 : Int32) = (0 : Int32)))).1) ?_
        refine XS.iload X166.here hx rfl (hb hby at_133) rfl ?_
        refine XS.iconst X166.here hx rfl (hb hby at_135) ?_
        show Steps p.tables e below (T166.setTop (mkF m 136 #[iv p0_0, iv p0_1, iv p0_2, iv p0_3, iv p0_4, iv p0_5, iv (2 : Int32), .val (.long (cp.toInt64)), .second, iv (2 : Int32), rv b86, rv b_160] [(.int (2 : Int32)), (.int (2 : Int32))])) _
        refine XS.icmpNo X166.here hx rfl (hb hby at_136) rfl (flt (by decide : ¬ ((2 : Int32) < (2 : Int32)))).1 ?_
        refine XS.aload X166.here hx rfl (hb hby at_139) rfl rfl ?_
        refine XS.iconst X166.here hx rfl (hb hby at_141) ?_
        refine XS.iloadN X166.here hx rfl (hb hby at_142) rfl ?_
        show Steps p.tables e below (T166.setTop (mkF m 143 #[iv p0_0, iv p0_1, iv p0_2, iv p0_3, iv p0_4, iv p0_5, iv (2 : Int32), .val (.long (cp.toInt64)), .second, iv (2 : Int32), rv b86, rv b_160] [(.int p0_1), (.int (1 : Int32)), (.ref b_160)])) _
        refine XS.iload X166.here hx rfl (hb hby at_143) rfl ?_
        show Steps p.tables e below (T166.setTop (mkF m 145 #[iv p0_0, iv p0_1, iv p0_2, iv p0_3, iv p0_4, iv p0_5, iv (2 : Int32), .val (.long (cp.toInt64)), .second, iv (2 : Int32), rv b86, rv b_160] [(.int (2 : Int32)), (.int p0_1), (.int (1 : Int32)), (.ref b_160)])) _
        refine st170 _ ?_
        show Steps p.tables e below (T170.setTop (mkF m 148 #[iv p0_0, iv p0_1, iv p0_2, iv p0_3, iv p0_4, iv p0_5, iv (2 : Int32), .val (.long (cp.toInt64)), .second, iv (2 : Int32), rv b86, rv b_160] [(.int (if ((nar .byte (p0_1.toInt8.toInt32)) &&& (255 : Int32)) = (if (1 : Int32) < (2 : Int32) then (p0_1 &&& (255 : Int32)) else ((255 : Int32) - (p0_1 &&& (255 : Int32)))) then (1 : Int32) else (0 : Int32)))])) _
        rw [q172]
        show Steps p.tables e below (T170.setTop (mkF m 148 #[iv p0_0, iv p0_1, iv p0_2, iv p0_3, iv p0_4, iv p0_5, iv (2 : Int32), .val (.long (cp.toInt64)), .second, iv (2 : Int32), rv b86, rv b_160] [(.int (1 : Int32))])) _
        show Steps p.tables e below (T170.setTop (mkF m 148 #[iv p0_0, iv p0_1, iv p0_2, iv p0_3, iv p0_4, iv p0_5, iv (2 : Int32), .val (.long (cp.toInt64)), .second, iv (2 : Int32), rv b86, rv b_160] [(.int (1 : Int32))])) _
        refine XS.ifNo X170.here hx rfl (hb hby at_148) rfl ((if0 _ _).trans (feq (by decide : ¬ ((1 : Int32) = (0 : Int32)))).1) ?_
        refine XS.iload X170.here hx rfl (hb hby at_151) rfl ?_
        refine XS.iconst X170.here hx rfl (hb hby at_153) ?_
        refine XS.icmpYes X170.here hx rfl (pc0 := 154) (pc' := 169) rfl (hb hby at_154) rfl (tlt (by decide : (2 : Int32) < (3 : Int32))).1 (by decide) (by decide) ?_
        show Steps p.tables e below (T170.setTop (mkF m 169 #[iv p0_0, iv p0_1, iv p0_2, iv p0_3, iv p0_4, iv p0_5, iv (2 : Int32), .val (.long (cp.toInt64)), .second, iv (2 : Int32), rv b86, rv b_160] [])) _
        refine XS.iload X170.here hx rfl (hb hby at_169) rfl ?_
        refine XS.iconst X170.here hx rfl (hb hby at_171) ?_
        refine XS.icmpYes X170.here hx rfl (pc0 := 172) (pc' := 187) rfl (hb hby at_172) rfl (tlt (by decide : (2 : Int32) < (4 : Int32))).1 (by decide) (by decide) ?_
        refine XS.iconst X170.here hx rfl (hb hby at_187) ?_
        show Steps p.tables e below (T170.setTop (mkF m 188 #[iv p0_0, iv p0_1, iv p0_2, iv p0_3, iv p0_4, iv p0_5, iv (2 : Int32), .val (.long (cp.toInt64)), .second, iv (2 : Int32), rv b86, rv b_160] [(.int (1 : Int32))])) _
        refine XS.goto X170.here hx rfl (pc0 := 188) (pc' := 192) rfl (hb hby at_188) (by decide) (by decide) ?_
        show Steps p.tables e below (T170.setTop (mkF m 192 #[iv p0_0, iv p0_1, iv p0_2, iv p0_3, iv p0_4, iv p0_5, iv (2 : Int32), .val (.long (cp.toInt64)), .second, iv (2 : Int32), rv b86, rv b_160] [(.int (1 : Int32))])) _
        exact retN X170 hx (t := .boolean) Bd.returns (by simp) (hb hby at_192) hr
      · show Q_rm0 Z _ _ _ _ _ _ h0 n0 _ T170.heap _
        rw [K170q]
        exact ⟨rfl, N171, (K164)⟩
  · skip
    obtain ⟨cp, h_cp⟩ : ∃ z : Int32, z = (((p0_5.toUInt32 >>> ((8 : Int32) &&& 31).toUInt32).toInt32) &&& (7 : Int32)) := ⟨_, rfl⟩
    have hcp : 0 ≤ cp.toInt ∧ cp.toInt < 8 := by rw [h_cp]; exact own_cp _
    obtain ⟨T173, h173, X173, e173, E173, A173, D173, -, st173⟩ := newO X0 hx hZ hown wo1 wo2 wo3 e0 (g := (mkF m 32 #[iv p0_0, iv p0_1, iv p0_2, iv p0_3, iv p0_4, iv p0_5, iv (3 : Int32), .val (.long (cp.toInt64)), .second, iv ((p0_4 &&& (2147483647 : Int32)) % (4 : Int32)), .unset, .unset] [])) rfl (hb hby at_32) (by decide) (by decide)
    obtain ⟨b173, gg173⟩ : ∃ z, z = h0.size := ⟨_, rfl⟩
    rw [← gg173] at A173 D173 st173
    have g174 : n0 ≤ b173 := Nat.le_trans Z0 (Nat.le_of_eq gg173.symm)
    have bz175 : h0.size ≤ b173 := Nat.le_trans (Keep.refl h0 []).1 (Nat.le_of_eq gg173.symm)
    have K176 : Keep h0 h173 [] := (Keep.refl h0 []).ext E173
    have f177 : Fld Z h173 b173 "com/example/dido/dido/keys/KeyWriter" "bytes" "[B" .null := D173 (Or.inl wo17) (ty := (.array .byte)) (by decide)
    have f178 : Fld Z h173 b173 "com/example/dido/dido/keys/KeyWriter" "size" "I" (.int (0 : Int32)) := D173 (Or.inl wo28) (ty := .int) (by decide)
    have f180 := (Nat.le_trans Z0 E173.1)
    obtain ⟨_, _, ⟨T179, L179, k179, n179⟩, -, X179, ⟨Lc179, hQ179, l179, y179, z179⟩, st179⟩ := X173.specialBack hx (y := MN1) rfl hown (mvT hZ wo4) (mvT hZ wo5) (mvT hZ wo6) (by decide) (backOf (W := 1) (rm1 l Z a0 hw [] b173 cp h173 n0 f180 A173 g174 f177 f178 (hcp : 0 ≤ cp.toInt ∧ cp.toInt < 8)) hZ wo6 wo3 (by decide) (by decide)) (g := (mkF m 38 #[iv p0_0, iv p0_1, iv p0_2, iv p0_3, iv p0_4, iv p0_5, iv (3 : Int32), .val (.long (cp.toInt64)), .second, iv ((p0_4 &&& (2147483647 : Int32)) % (4 : Int32)), .unset, .unset] [(.long (cp.toInt64)), (.ref b173), (.ref b173)])) rfl (by rw [hml]; rfl) (Steps.refl _) (a := b173) (argsL := [(.long (cp.toInt64))]) (rest := [(.ref b173)]) (lenOf pd_4 rfl) rfl (by show 2 * 0 + _ ≤ _; exact Nat.le_of_eq rfl) (hb hby at_38) (fun _ _ => ⟨rfl, e173, (by decide : 1 + 1 ≤ _), (by decide : 2 + 7 ≤ _)⟩)
    dsimp only [Pt.U, Pt.locs, Pt.cells, Pt.slots] at X179 l179 y179 z179 st179 hQ179
    rw [l179, y179, z179] at X179
    obtain ⟨ar_179, rfl, N179q, K179q, hq179_0, hq179_1, hq179_2, hq179_3⟩ := hQ179
    have N181 := Fr.app N0 N179q
    have ne182 : b173 ≠ ar_179 := Nat.ne_of_lt (Nat.lt_of_lt_of_le A173.lt hq179_0)
    have g183 : n0 ≤ ar_179 := Nat.le_trans f180 hq179_0
    have bz184 : h0.size ≤ ar_179 := Nat.le_trans (K176).1 hq179_0
    have K185 : Keep h0 T179.heap [] := (K176).trans K179q (allS (P := fun x => x ∈ [] ∨ h0.size ≤ x) (Or.inr bz175) all0)
    have f186 := (A173.keep K179q)
    have f188 := (Nat.le_trans f180 K179q.1)
    obtain ⟨cq187, kq187, q187a, q187b, q187c⟩ := isOf hZ rfl f186
    obtain ⟨_, _, ⟨T187, L187, k187, n187⟩, -, X187, ⟨Lc187, hQ187, l187, y187, z187⟩, st187⟩ := X179.virtualBack hx (y := MN4) (z := MN4) hown (mvT hZ wo18) (mvT hZ wo19) (notFace_of_selects (args := #[]) (mvT hZ wo21)) (mvT hZ wo21) (mvT hZ wo20) (by decide) (backOf (W := 0) (rm_wr0 l Z a0 hw [] b173 p0_0 ar_179 cp (T179.heap) n0 f188 f186 g174 g183 ne182 hq179_2 hq179_3 hq179_1 (hcp.1 : (0 : Int32).toInt ≤ cp.toInt) ((Int.lt_trans hcp.2 (by decide)) : cp.toInt < 9)) hZ wo22 wo3 (by decide) (by decide)) q187a q187c (g := (mkF m 52 #[iv p0_0, iv p0_1, iv p0_2, iv p0_3, iv p0_4, iv p0_5, iv (3 : Int32), .val (.long (cp.toInt64)), .second, iv ((p0_4 &&& (2147483647 : Int32)) % (4 : Int32)), rv b173, .unset] [(.int p0_0), (.ref b173)])) rfl (by rw [hml]; rfl) (Steps.refl _) (argsL := [(.int p0_0)]) (rest := []) (lenOf pd_2 rfl) rfl (by show 2 * 0 + _ ≤ _; exact Nat.le_of_eq rfl) (hb hby at_52) (fun _ _ => ⟨rfl, rfl, (by decide : 2 + 1 ≤ _), (by decide : 9 + 1 ≤ _)⟩)
    dsimp only [Pt.U, Pt.locs, Pt.cells, Pt.slots] at X187 l187 y187 z187 st187 hQ187
    rw [l187, y187, z187] at X187
    obtain ⟨ar2_187, ln2_187, rfl, N187q, K187q, hq187_0, hq187_1, hq187_2, hq187_3, hq187_4, hq187_5, hq187_6, hq187_7⟩ := hQ187
    have N189 := Fr.app N181 N187q
    have K190 : Keep h0 T187.heap [] := (K185).trans K187q (allS (P := fun x => x ∈ [] ∨ h0.size ≤ x) (Or.inr bz175) (allS (P := fun x => x ∈ [] ∨ h0.size ≤ x) (Or.inr bz184) all0))
    have bz191 : h0.size ≤ ar2_187 := hq187_0.elim (fun q => q ▸ bz184) (fun q => Nat.le_trans (K185).1 q)
    have f192 := (f186.keep K187q)
    have f194 := (Nat.le_trans f188 K187q.1)
    obtain ⟨cq193, kq193, q193a, q193b, q193c⟩ := isOf hZ rfl f192
    obtain ⟨_, _, ⟨T193, L193, k193, n193⟩, -, X193, ⟨Lc193, hQ193, l193, y193, z193⟩, st193⟩ := X187.virtualBack hx (y := MN4) (z := MN4) hown (mvT hZ wo18) (mvT hZ wo19) (notFace_of_selects (args := #[]) (mvT hZ wo21)) (mvT hZ wo21) (mvT hZ wo20) (by decide) (backOf (W := 0) (rm_wr1 l Z a0 hw [] b173 p0_1 ar2_187 ln2_187 (nar .byte (p0_0.toInt8.toInt32)) (T187.heap) n0 f194 f192 g174 hq187_1 hq187_2 hq187_3 hq187_4 hq187_5 (hq187_6 : (1 : Int32).toInt ≤ ln2_187.toInt) (hq187_7 : ln2_187.toInt < 9)) hZ wo22 wo3 (by decide) (by decide)) q193a q193c (g := (mkF m 64 #[iv p0_0, iv p0_1, iv p0_2, iv p0_3, iv p0_4, iv p0_5, iv (3 : Int32), .val (.long (cp.toInt64)), .second, iv ((p0_4 &&& (2147483647 : Int32)) % (4 : Int32)), rv b173, .unset] [(.int p0_1), (.ref b173)])) rfl (by rw [hml]; rfl) (Steps.refl _) (argsL := [(.int p0_1)]) (rest := []) (lenOf pd_2 rfl) rfl (by show 2 * 0 + _ ≤ _; exact Nat.le_of_eq rfl) (hb hby at_64) (fun _ _ => ⟨rfl, rfl, (by decide : 3 + 1 ≤ _), (by decide : 10 + 2 ≤ _)⟩)
    dsimp only [Pt.U, Pt.locs, Pt.cells, Pt.slots] at X193 l193 y193 z193 st193 hQ193
    rw [l193, y193, z193] at X193
    obtain ⟨ar2_193, ln2_193, rfl, N193q, K193q, hq193_0, hq193_1, hq193_2, hq193_3, hq193_4, hq193_5, hq193_6, hq193_7⟩ := hQ193
    have N195 := Fr.app N189 N193q
    have K196 : Keep h0 T193.heap [] := (K190).trans K193q (allS (P := fun x => x ∈ [] ∨ h0.size ≤ x) (Or.inr bz175) (allS (P := fun x => x ∈ [] ∨ h0.size ≤ x) (Or.inr bz191) all0))
    have bz197 : h0.size ≤ ar2_193 := hq193_0.elim (fun q => q ▸ bz191) (fun q => Nat.le_trans (K190).1 q)
    have f198 := (f192.keep K193q)
    have f200 := (Nat.le_trans f194 K193q.1)
    obtain ⟨cq199, kq199, q199a, q199b, q199c⟩ := isOf hZ rfl f198
    obtain ⟨_, _, ⟨T199, L199, k199, n199⟩, -, X199, ⟨Lc199, hQ199, l199, y199, z199⟩, st199⟩ := X193.virtualBack hx (y := MN4) (z := MN4) hown (mvT hZ wo18) (mvT hZ wo19) (notFace_of_selects (args := #[]) (mvT hZ wo21)) (mvT hZ wo21) (mvT hZ wo20) (by decide) (backOf (W := 0) (rm_wr2 l Z a0 hw [] b173 p0_2 ar2_193 ln2_193 (nar .byte (p0_0.toInt8.toInt32)) (nar .byte (p0_1.toInt8.toInt32)) (T193.heap) n0 f200 f198 g174 hq193_1 hq193_2 hq193_3 hq193_4 hq193_5 (hq193_6 : (2 : Int32).toInt ≤ ln2_193.toInt) (hq193_7 : ln2_193.toInt < 9)) hZ wo22 wo3 (by decide) (by decide)) q199a q199c (g := (mkF m 76 #[iv p0_0, iv p0_1, iv p0_2, iv p0_3, iv p0_4, iv p0_5, iv (3 : Int32), .val (.long (cp.toInt64)), .second, iv ((p0_4 &&& (2147483647 : Int32)) % (4 : Int32)), rv b173, .unset] [(.int p0_2), (.ref b173)])) rfl (by rw [hml]; rfl) (Steps.refl _) (argsL := [(.int p0_2)]) (rest := []) (lenOf pd_2 rfl) rfl (by show 2 * 0 + _ ≤ _; exact Nat.le_of_eq rfl) (hb hby at_76) (fun _ _ => ⟨rfl, rfl, (by decide : 4 + 1 ≤ _), (by decide : 12 + 4 ≤ _)⟩)
    dsimp only [Pt.U, Pt.locs, Pt.cells, Pt.slots] at X199 l199 y199 z199 st199 hQ199
    rw [l199, y199, z199] at X199
    obtain ⟨ar2_199, ln2_199, rfl, N199q, K199q, hq199_0, hq199_1, hq199_2, hq199_3, hq199_4, hq199_5, hq199_6, hq199_7⟩ := hQ199
    have N201 := Fr.app N195 N199q
    have K202 : Keep h0 T199.heap [] := (K196).trans K199q (allS (P := fun x => x ∈ [] ∨ h0.size ≤ x) (Or.inr bz175) (allS (P := fun x => x ∈ [] ∨ h0.size ≤ x) (Or.inr bz197) all0))
    have bz203 : h0.size ≤ ar2_199 := hq199_0.elim (fun q => q ▸ bz197) (fun q => Nat.le_trans (K196).1 q)
    obtain ⟨fr, h_fr⟩ : ∃ z : Int32, z = ((p0_4 &&& (2147483647 : Int32)) % (4 : Int32)) := ⟨_, rfl⟩
    have hfr : 0 ≤ fr.toInt ∧ fr.toInt < 4 := by rw [h_fr]; exact own_mod _ 4 (by decide)
    have pre204 : ∀ t, Steps p.tables e below (T199.setTop (mkF m 93 #[iv p0_0, iv p0_1, iv p0_2, iv p0_3, iv p0_4, iv p0_5, iv (3 : Int32), .val (.long (cp.toInt64)), .second, iv fr, rv b173, .unset] [(.ref b173)])) t → Steps p.tables e below (s₁.setTop (entryFrame m #[(.int p0_0), (.int p0_1), (.int p0_2), (.int p0_3), (.int p0_4), (.int p0_5)] maxLocals)) t := by
      intro t_ k_
      refine pre1 _ ?_
      show Steps p.tables e below (s₁.setTop (mkF m 9 #[iv p0_0, iv p0_1, iv p0_2, iv p0_3, iv p0_4, iv p0_5, iv (3 : Int32), .unset, .unset, .unset, .unset, .unset] [])) _
      refine XS.iload X0.here hx rfl (hb hby at_9) rfl ?_
      refine XS.bipush X0.here hx rfl (hb hby at_11) ?_
      show Steps p.tables e below (s₁.setTop (mkF m 13 #[iv p0_0, iv p0_1, iv p0_2, iv p0_3, iv p0_4, iv p0_5, iv (3 : Int32), .unset, .unset, .unset, .unset, .unset] [(.int (8 : Int32)), (.int p0_5)])) _
      refine XS.iushr X0.here hx rfl (hb hby at_13) rfl ?_
      refine XS.bipush X0.here hx rfl (hb hby at_14) ?_
      refine XS.iand X0.here hx rfl (hb hby at_16) rfl ?_
      show Steps p.tables e below (s₁.setTop (mkF m 17 #[iv p0_0, iv p0_1, iv p0_2, iv p0_3, iv p0_4, iv p0_5, iv (3 : Int32), .unset, .unset, .unset, .unset, .unset] [(.int (((p0_5.toUInt32 >>> ((8 : Int32) &&& 31).toUInt32).toInt32) &&& (7 : Int32)))])) _
      rw [← h_cp]
      show Steps p.tables e below (s₁.setTop (mkF m 17 #[iv p0_0, iv p0_1, iv p0_2, iv p0_3, iv p0_4, iv p0_5, iv (3 : Int32), .unset, .unset, .unset, .unset, .unset] [(.int cp)])) _
      show Steps p.tables e below (s₁.setTop (mkF m 17 #[iv p0_0, iv p0_1, iv p0_2, iv p0_3, iv p0_4, iv p0_5, iv (3 : Int32), .unset, .unset, .unset, .unset, .unset] [(.int cp)])) _
      refine XS.i2l X0.here hx rfl (hb hby at_17) rfl ?_
      refine XS.lstore X0.here hx rfl (hb hby at_18) rfl (l' := #[iv p0_0, iv p0_1, iv p0_2, iv p0_3, iv p0_4, iv p0_5, iv (3 : Int32), .val (.long (cp.toInt64)), .second, .unset, .unset, .unset]) rfl ?_
      refine XS.iload X0.here hx rfl (hb hby at_20) rfl ?_
      show Steps p.tables e below (s₁.setTop (mkF m 22 #[iv p0_0, iv p0_1, iv p0_2, iv p0_3, iv p0_4, iv p0_5, iv (3 : Int32), .val (.long (cp.toInt64)), .second, .unset, .unset, .unset] [(.int p0_4)])) _
      refine X0.ldcInt hx hown (mvT hZ wo0) (g := (mkF m 22 #[iv p0_0, iv p0_1, iv p0_2, iv p0_3, iv p0_4, iv p0_5, iv (3 : Int32), .val (.long (cp.toInt64)), .second, .unset, .unset, .unset] [(.int p0_4)])) rfl (hb hby at_22) _ ?_
      show Steps p.tables e below (s₁.setTop (mkF m 24 #[iv p0_0, iv p0_1, iv p0_2, iv p0_3, iv p0_4, iv p0_5, iv (3 : Int32), .val (.long (cp.toInt64)), .second, .unset, .unset, .unset] [(.int (2147483647 : Int32)), (.int p0_4)])) _
      refine XS.iand X0.here hx rfl (hb hby at_24) rfl ?_
      refine XS.iload X0.here hx rfl (hb hby at_25) rfl ?_
      refine XS.iconst X0.here hx rfl (hb hby at_27) ?_
      show Steps p.tables e below (s₁.setTop (mkF m 28 #[iv p0_0, iv p0_1, iv p0_2, iv p0_3, iv p0_4, iv p0_5, iv (3 : Int32), .val (.long (cp.toInt64)), .second, .unset, .unset, .unset] [(.int (1 : Int32)), (.int (3 : Int32)), (.int (p0_4 &&& (2147483647 : Int32)))])) _
      refine XS.iadd X0.here hx rfl (hb hby at_28) rfl ?_
      show Steps p.tables e below (s₁.setTop (mkF m 29 #[iv p0_0, iv p0_1, iv p0_2, iv p0_3, iv p0_4, iv p0_5, iv (3 : Int32), .val (.long (cp.toInt64)), .second, .unset, .unset, .unset] [(.int (4 : Int32)), (.int (p0_4 &&& (2147483647 : Int32)))])) _
      refine iremM (g := (mkF m 29 #[iv p0_0, iv p0_1, iv p0_2, iv p0_3, iv p0_4, iv p0_5, iv (3 : Int32), .val (.long (cp.toInt64)), .second, .unset, .unset, .unset] [(.int (4 : Int32)), (.int (p0_4 &&& (2147483647 : Int32)))])) X0 hx rfl (hb hby at_29) rfl (by decide) ?_
      show Steps p.tables e below (s₁.setTop (mkF m 30 #[iv p0_0, iv p0_1, iv p0_2, iv p0_3, iv p0_4, iv p0_5, iv (3 : Int32), .val (.long (cp.toInt64)), .second, .unset, .unset, .unset] [(.int ((p0_4 &&& (2147483647 : Int32)) % (4 : Int32)))])) _
      refine XS.istore X0.here hx rfl (hb hby at_30) rfl (l' := #[iv p0_0, iv p0_1, iv p0_2, iv p0_3, iv p0_4, iv p0_5, iv (3 : Int32), .val (.long (cp.toInt64)), .second, iv ((p0_4 &&& (2147483647 : Int32)) % (4 : Int32)), .unset, .unset]) rfl ?_
      show Steps p.tables e below (s₁.setTop (mkF m 32 #[iv p0_0, iv p0_1, iv p0_2, iv p0_3, iv p0_4, iv p0_5, iv (3 : Int32), .val (.long (cp.toInt64)), .second, iv ((p0_4 &&& (2147483647 : Int32)) % (4 : Int32)), .unset, .unset] [])) _
      refine st173 _ ?_
      show Steps p.tables e below (T173.setTop (mkF m 35 #[iv p0_0, iv p0_1, iv p0_2, iv p0_3, iv p0_4, iv p0_5, iv (3 : Int32), .val (.long (cp.toInt64)), .second, iv ((p0_4 &&& (2147483647 : Int32)) % (4 : Int32)), .unset, .unset] [(.ref b173)])) _
      refine XS.dup X173.here hx rfl (hb hby at_35) rfl rfl ?_
      refine XS.lload X173.here hx rfl (hb hby at_36) rfl ?_
      show Steps p.tables e below (T173.setTop (mkF m 38 #[iv p0_0, iv p0_1, iv p0_2, iv p0_3, iv p0_4, iv p0_5, iv (3 : Int32), .val (.long (cp.toInt64)), .second, iv ((p0_4 &&& (2147483647 : Int32)) % (4 : Int32)), .unset, .unset] [(.long (cp.toInt64)), (.ref b173), (.ref b173)])) _
      refine st179.trans ?_
      show Steps p.tables e below (T179.setTop (mkF m 41 #[iv p0_0, iv p0_1, iv p0_2, iv p0_3, iv p0_4, iv p0_5, iv (3 : Int32), .val (.long (cp.toInt64)), .second, iv ((p0_4 &&& (2147483647 : Int32)) % (4 : Int32)), .unset, .unset] [(.ref b173)])) _
      refine XS.astore X179.here hx rfl (hb hby at_41) rfl rfl (l' := #[iv p0_0, iv p0_1, iv p0_2, iv p0_3, iv p0_4, iv p0_5, iv (3 : Int32), .val (.long (cp.toInt64)), .second, iv ((p0_4 &&& (2147483647 : Int32)) % (4 : Int32)), rv b173, .unset]) rfl ?_
      show Steps p.tables e below (T179.setTop (mkF m 43 #[iv p0_0, iv p0_1, iv p0_2, iv p0_3, iv p0_4, iv p0_5, iv (3 : Int32), .val (.long (cp.toInt64)), .second, iv ((p0_4 &&& (2147483647 : Int32)) % (4 : Int32)), rv b173, .unset] [])) _
      refine XS.iload X179.here hx rfl (hb hby at_43) rfl ?_
      refine XS.iconst X179.here hx rfl (hb hby at_45) ?_
      refine XS.icmpNo X179.here hx rfl (hb hby at_46) rfl (flt (by decide : ¬ ((3 : Int32) < (1 : Int32)))).1 ?_
      refine XS.aload X179.here hx rfl (hb hby at_49) rfl rfl ?_
      show Steps p.tables e below (T179.setTop (mkF m 51 #[iv p0_0, iv p0_1, iv p0_2, iv p0_3, iv p0_4, iv p0_5, iv (3 : Int32), .val (.long (cp.toInt64)), .second, iv ((p0_4 &&& (2147483647 : Int32)) % (4 : Int32)), rv b173, .unset] [(.ref b173)])) _
      refine XS.iloadN X179.here hx rfl (hb hby at_51) rfl ?_
      show Steps p.tables e below (T179.setTop (mkF m 52 #[iv p0_0, iv p0_1, iv p0_2, iv p0_3, iv p0_4, iv p0_5, iv (3 : Int32), .val (.long (cp.toInt64)), .second, iv ((p0_4 &&& (2147483647 : Int32)) % (4 : Int32)), rv b173, .unset] [(.int p0_0), (.ref b173)])) _
      refine st187.trans ?_
      show Steps p.tables e below (T187.setTop (mkF m 55 #[iv p0_0, iv p0_1, iv p0_2, iv p0_3, iv p0_4, iv p0_5, iv (3 : Int32), .val (.long (cp.toInt64)), .second, iv ((p0_4 &&& (2147483647 : Int32)) % (4 : Int32)), rv b173, .unset] [])) _
      refine XS.iload X187.here hx rfl (hb hby at_55) rfl ?_
      refine XS.iconst X187.here hx rfl (hb hby at_57) ?_
      show Steps p.tables e below (T187.setTop (mkF m 58 #[iv p0_0, iv p0_1, iv p0_2, iv p0_3, iv p0_4, iv p0_5, iv (3 : Int32), .val (.long (cp.toInt64)), .second, iv ((p0_4 &&& (2147483647 : Int32)) % (4 : Int32)), rv b173, .unset] [(.int (2 : Int32)), (.int (3 : Int32))])) _
      refine XS.icmpNo X187.here hx rfl (hb hby at_58) rfl (flt (by decide : ¬ ((3 : Int32) < (2 : Int32)))).1 ?_
      refine XS.aload X187.here hx rfl (hb hby at_61) rfl rfl ?_
      refine XS.iloadN X187.here hx rfl (hb hby at_63) rfl ?_
      show Steps p.tables e below (T187.setTop (mkF m 64 #[iv p0_0, iv p0_1, iv p0_2, iv p0_3, iv p0_4, iv p0_5, iv (3 : Int32), .val (.long (cp.toInt64)), .second, iv ((p0_4 &&& (2147483647 : Int32)) % (4 : Int32)), rv b173, .unset] [(.int p0_1), (.ref b173)])) _
      refine st193.trans ?_
      show Steps p.tables e below (T193.setTop (mkF m 67 #[iv p0_0, iv p0_1, iv p0_2, iv p0_3, iv p0_4, iv p0_5, iv (3 : Int32), .val (.long (cp.toInt64)), .second, iv ((p0_4 &&& (2147483647 : Int32)) % (4 : Int32)), rv b173, .unset] [])) _
      refine XS.iload X193.here hx rfl (hb hby at_67) rfl ?_
      refine XS.iconst X193.here hx rfl (hb hby at_69) ?_
      refine XS.icmpNo X193.here hx rfl (hb hby at_70) rfl (flt (by decide : ¬ ((3 : Int32) < (3 : Int32)))).1 ?_
      refine XS.aload X193.here hx rfl (hb hby at_73) rfl rfl ?_
      show Steps p.tables e below (T193.setTop (mkF m 75 #[iv p0_0, iv p0_1, iv p0_2, iv p0_3, iv p0_4, iv p0_5, iv (3 : Int32), .val (.long (cp.toInt64)), .second, iv ((p0_4 &&& (2147483647 : Int32)) % (4 : Int32)), rv b173, .unset] [(.ref b173)])) _
      refine XS.iloadN X193.here hx rfl (hb hby at_75) rfl ?_
      show Steps p.tables e below (T193.setTop (mkF m 76 #[iv p0_0, iv p0_1, iv p0_2, iv p0_3, iv p0_4, iv p0_5, iv (3 : Int32), .val (.long (cp.toInt64)), .second, iv ((p0_4 &&& (2147483647 : Int32)) % (4 : Int32)), rv b173, .unset] [(.int p0_2), (.ref b173)])) _
      refine st199.trans ?_
      show Steps p.tables e below (T199.setTop (mkF m 79 #[iv p0_0, iv p0_1, iv p0_2, iv p0_3, iv p0_4, iv p0_5, iv (3 : Int32), .val (.long (cp.toInt64)), .second, iv ((p0_4 &&& (2147483647 : Int32)) % (4 : Int32)), rv b173, .unset] [])) _
      refine XS.iload X199.here hx rfl (hb hby at_79) rfl ?_
      refine XS.iconst X199.here hx rfl (hb hby at_81) ?_
      show Steps p.tables e below (T199.setTop (mkF m 82 #[iv p0_0, iv p0_1, iv p0_2, iv p0_3, iv p0_4, iv p0_5, iv (3 : Int32), .val (.long (cp.toInt64)), .second, iv ((p0_4 &&& (2147483647 : Int32)) % (4 : Int32)), rv b173, .unset] [(.int (4 : Int32)), (.int (3 : Int32))])) _
      refine XS.icmpYes X199.here hx rfl (pc0 := 82) (pc' := 91) rfl (hb hby at_82) rfl (tlt (by decide : (3 : Int32) < (4 : Int32))).1 (by decide) (by decide) ?_
      refine XS.aload X199.here hx rfl (hb hby at_91) rfl rfl ?_
      show Steps p.tables e below (T199.setTop (mkF m 93 #[iv p0_0, iv p0_1, iv p0_2, iv p0_3, iv p0_4, iv p0_5, iv (3 : Int32), .val (.long (cp.toInt64)), .second, iv ((p0_4 &&& (2147483647 : Int32)) % (4 : Int32)), rv b173, .unset] [(.ref b173)])) _
      rw [← h_fr]
      show Steps p.tables e below (T199.setTop (mkF m 93 #[iv p0_0, iv p0_1, iv p0_2, iv p0_3, iv p0_4, iv p0_5, iv (3 : Int32), .val (.long (cp.toInt64)), .second, iv fr, rv b173, .unset] [(.ref b173)])) _
      exact k_
    have hx_205 : fr = (0 : Int32) ∨ fr = (1 : Int32) ∨ fr = (2 : Int32) ∨ fr = (3 : Int32) := own_lt4 fr hfr
    rcases hx_205 with rfl | rfl | rfl | rfl
    · skip
      have f207 := (Nat.le_trans f200 K199q.1)
      have f208 := (f198.keep K199q)
      obtain ⟨cq206, kq206, q206a, q206b, q206c⟩ := isOf hZ rfl f208
      obtain ⟨_, _, ⟨T206, L206, k206, n206⟩, -, X206, ⟨Lc206, hQ206, l206, y206, z206⟩, st206⟩ := X199.virtualBack hx (y := MN9) (z := MN9) hown (mvT hZ wo43) (mvT hZ wo44) (notFace_of_selects (args := #[]) (mvT hZ wo46)) (mvT hZ wo46) (mvT hZ wo45) (by decide) (backOf (W := 0) (rm_in3_0 l Z a0 hw [] b173 ar2_199 ln2_199 (nar .byte (p0_0.toInt8.toInt32)) (nar .byte (p0_1.toInt8.toInt32)) (nar .byte (p0_2.toInt8.toInt32)) (T199.heap) n0 f207 hq199_1 hq199_2 hq199_3 hq199_4 hq199_5 (hq199_6 : (3 : Int32).toInt ≤ ln2_199.toInt)) hZ wo47 wo3 (by decide) (by decide)) q206a q206c (g := (mkF m 95 #[iv p0_0, iv p0_1, iv p0_2, iv p0_3, iv p0_4, iv p0_5, iv (3 : Int32), .val (.long (cp.toInt64)), .second, iv (0 : Int32), rv b173, .unset] [(.int (0 : Int32)), (.ref b173)])) rfl (by rw [hml]; rfl) (Steps.refl _) (argsL := [(.int (0 : Int32))]) (rest := []) (lenOf pd_2 rfl) rfl (by show 2 * 0 + _ ≤ _; exact Nat.le_of_eq rfl) (hb hby at_95) (fun _ _ => ⟨rfl, rfl, (by decide : 5 + 0 ≤ _), (by decide : 16 + 0 ≤ _)⟩)
      dsimp only [Pt.U, Pt.locs, Pt.cells, Pt.slots] at X206 l206 y206 z206 st206 hQ206
      rw [l206, y206, z206] at X206
      obtain ⟨rfl, N206q, K206q, hq206_0⟩ := hQ206
      have N209 := Fr.app N201 N206q
      have K210 : Keep h0 T206.heap [] := (K202).trans K206q (allS (P := fun x => x ∈ [] ∨ h0.size ≤ x) (Or.inr bz203) all0)
      have f211 := (hq199_3.keep K206q (ninS hq199_2 nin0))
      have f212 := (hq199_4.keep K206q (ninS hq199_2 nin0))
      have f214 := (Nat.le_trans f207 K206q.1)
      have f215 := (f208.keep K206q)
      obtain ⟨cq213, kq213, q213a, q213b, q213c⟩ := isOf hZ rfl f215
      obtain ⟨_, _, ⟨T213, L213, k213, n213⟩, -, X213, ⟨Lc213, hQ213, l213, y213, z213⟩, st213⟩ := X206.virtualBack hx (y := MN10) (z := MN10) hown (mvT hZ wo48) (mvT hZ wo49) (notFace_of_selects (args := #[]) (mvT hZ wo51)) (mvT hZ wo51) (mvT hZ wo50) (by decide) (backOf (W := 0) (rm_tb3 l Z a0 hw [] b173 ar2_199 ln2_199 (nar .byte (((nar .byte (p0_0.toInt8.toInt32)) ^^^ (-1 : Int32)).toInt8.toInt32)) (nar .byte (((nar .byte (p0_1.toInt8.toInt32)) ^^^ (-1 : Int32)).toInt8.toInt32)) (nar .byte (((nar .byte (p0_2.toInt8.toInt32)) ^^^ (-1 : Int32)).toInt8.toInt32)) (T206.heap) n0 f214 f211 f212 hq206_0 (hq199_6 : (3 : Int32).toInt ≤ ln2_199.toInt)) hZ wo52 wo3 (by decide) (by decide)) q213a q213c (g := (mkF m 100 #[iv p0_0, iv p0_1, iv p0_2, iv p0_3, iv p0_4, iv p0_5, iv (3 : Int32), .val (.long (cp.toInt64)), .second, iv (0 : Int32), rv b173, .unset] [(.ref b173)])) rfl (by rw [hml]; rfl) (Steps.refl _) (argsL := []) (rest := []) (lenOf pd_1 rfl) rfl (by show 2 * 0 + _ ≤ _; exact Nat.le_of_eq rfl) (hb hby at_100) (fun _ _ => ⟨rfl, rfl, (by decide : 5 + 1 ≤ _), (by decide : 16 + 3 ≤ _)⟩)
      dsimp only [Pt.U, Pt.locs, Pt.cells, Pt.slots] at X213 l213 y213 z213 st213 hQ213
      rw [l213, y213, z213] at X213
      obtain ⟨b_213, rfl, N213q, K213q, hq213_0⟩ := hQ213
      have N216 := Fr.app N209 N213q
      have K217 : Keep h0 T213.heap [] := (K210).trans K213q all0
      obtain ⟨kk218, cl218, Ar218, qq218, Sz218, Nn218, Hs218, Gf218⟩ := id hq213_0
      have f220 := (Nat.le_trans f214 K213q.1)
      obtain ⟨_, _, ⟨T219, L219, k219, n219⟩, -, X219, ⟨Lc219, hQ219, l219, y219, z219⟩, st219⟩ := Jvm.LawKit.callS X213 hx (y := MN11) hown (mvT hZ wo53) (mvT hZ wo54) (mvT hZ wo55) (mvT hZ wo56) (by decide) (backOf (W := 0) (rm_ok3_0 l Z a0 hw [] b_213 p0_0 (0 : Int32) (nar .byte (((nar .byte (p0_0.toInt8.toInt32)) ^^^ (-1 : Int32)).toInt8.toInt32)) (nar .byte (((nar .byte (p0_1.toInt8.toInt32)) ^^^ (-1 : Int32)).toInt8.toInt32)) (nar .byte (((nar .byte (p0_2.toInt8.toInt32)) ^^^ (-1 : Int32)).toInt8.toInt32)) (T213.heap) n0 f220 hq213_0) hZ wo56 wo55 (by decide) (by decide)) (g := (mkF m 127 #[iv p0_0, iv p0_1, iv p0_2, iv p0_3, iv p0_4, iv p0_5, iv (3 : Int32), .val (.long (cp.toInt64)), .second, iv (0 : Int32), rv b173, rv b_213] [(.int (0 : Int32)), (.int p0_0), (.int (0 : Int32)), (.ref b_213)])) rfl (by rw [hml]; rfl) (argsL := [(.ref b_213), (.int (0 : Int32)), (.int p0_0), (.int (0 : Int32))]) (rest := []) (lenOf pd_8 rfl) rfl (by show 2 * 0 + _ ≤ _; exact Nat.le_of_eq rfl) (hb hby at_127) (fun _ _ => ⟨rfl, rfl, (by decide : 6 + 0 ≤ _), (by decide : 19 + 0 ≤ _)⟩)
      dsimp only [Pt.U, Pt.locs, Pt.cells, Pt.slots] at X219 l219 y219 z219 st219 hQ219
      rw [l219, y219, z219] at X219
      obtain ⟨rfl, N219q, K219q⟩ := hQ219
      have N221 := Fr.app N216 N219q
      have q222 : (if ((nar .byte (((nar .byte (p0_0.toInt8.toInt32)) ^^^ (-1 : Int32)).toInt8.toInt32)) &&& (255 : Int32)) = (if (0 : Int32) < (0 : Int32) then (p0_0 &&& (255 : Int32)) else ((255 : Int32) - (p0_0 &&& (255 : Int32)))) then (1 : Int32) else (0 : Int32)) = (1 : Int32) := if_pos ((own_k2 _).trans (if_neg (by decide)).symm)
      obtain ⟨_, _, ⟨T223, L223, k223, n223⟩, -, X223, ⟨Lc223, hQ223, l223, y223, z223⟩, st223⟩ := Jvm.LawKit.callS X219 hx (y := MN11) hown (mvT hZ wo53) (mvT hZ wo54) (mvT hZ wo55) (mvT hZ wo56) (by decide) (backOf (W := 0) (rm_ok3_1 l Z a0 hw [] b_213 p0_1 (0 : Int32) (nar .byte (((nar .byte (p0_0.toInt8.toInt32)) ^^^ (-1 : Int32)).toInt8.toInt32)) (nar .byte (((nar .byte (p0_1.toInt8.toInt32)) ^^^ (-1 : Int32)).toInt8.toInt32)) (nar .byte (((nar .byte (p0_2.toInt8.toInt32)) ^^^ (-1 : Int32)).toInt8.toInt32)) (T213.heap) n0 f220 hq213_0) hZ wo56 wo55 (by decide) (by decide)) (g := (mkF m 145 #[iv p0_0, iv p0_1, iv p0_2, iv p0_3, iv p0_4, iv p0_5, iv (3 : Int32), .val (.long (cp.toInt64)), .second, iv (0 : Int32), rv b173, rv b_213] [(.int (0 : Int32)), (.int p0_1), (.int (1 : Int32)), (.ref b_213)])) rfl (by rw [hml]; rfl) (argsL := [(.ref b_213), (.int (1 : Int32)), (.int p0_1), (.int (0 : Int32))]) (rest := []) (lenOf pd_8 rfl) rfl (by show 2 * 0 + _ ≤ _; exact Nat.le_of_eq rfl) (hb hby at_145) (fun _ _ => ⟨rfl, K219q, (by decide : 6 + 0 ≤ _), (by decide : 19 + 0 ≤ _)⟩)
      dsimp only [Pt.U, Pt.locs, Pt.cells, Pt.slots] at X223 l223 y223 z223 st223 hQ223
      rw [l223, y223, z223] at X223
      obtain ⟨rfl, N223q, K223q⟩ := hQ223
      have N224 := Fr.app N221 N223q
      have q225 : (if ((nar .byte (((nar .byte (p0_1.toInt8.toInt32)) ^^^ (-1 : Int32)).toInt8.toInt32)) &&& (255 : Int32)) = (if (1 : Int32) < (0 : Int32) then (p0_1 &&& (255 : Int32)) else ((255 : Int32) - (p0_1 &&& (255 : Int32)))) then (1 : Int32) else (0 : Int32)) = (1 : Int32) := if_pos ((own_k2 _).trans (if_neg (by decide)).symm)
      obtain ⟨_, _, ⟨T226, L226, k226, n226⟩, -, X226, ⟨Lc226, hQ226, l226, y226, z226⟩, st226⟩ := Jvm.LawKit.callS X223 hx (y := MN11) hown (mvT hZ wo53) (mvT hZ wo54) (mvT hZ wo55) (mvT hZ wo56) (by decide) (backOf (W := 0) (rm_ok3_2 l Z a0 hw [] b_213 p0_2 (0 : Int32) (nar .byte (((nar .byte (p0_0.toInt8.toInt32)) ^^^ (-1 : Int32)).toInt8.toInt32)) (nar .byte (((nar .byte (p0_1.toInt8.toInt32)) ^^^ (-1 : Int32)).toInt8.toInt32)) (nar .byte (((nar .byte (p0_2.toInt8.toInt32)) ^^^ (-1 : Int32)).toInt8.toInt32)) (T213.heap) n0 f220 hq213_0) hZ wo56 wo55 (by decide) (by decide)) (g := (mkF m 163 #[iv p0_0, iv p0_1, iv p0_2, iv p0_3, iv p0_4, iv p0_5, iv (3 : Int32), .val (.long (cp.toInt64)), .second, iv (0 : Int32), rv b173, rv b_213] [(.int (0 : Int32)), (.int p0_2), (.int (2 : Int32)), (.ref b_213)])) rfl (by rw [hml]; rfl) (argsL := [(.ref b_213), (.int (2 : Int32)), (.int p0_2), (.int (0 : Int32))]) (rest := []) (lenOf pd_8 rfl) rfl (by show 2 * 0 + _ ≤ _; exact Nat.le_of_eq rfl) (hb hby at_163) (fun _ _ => ⟨rfl, K223q, (by decide : 6 + 0 ≤ _), (by decide : 19 + 0 ≤ _)⟩)
      dsimp only [Pt.U, Pt.locs, Pt.cells, Pt.slots] at X226 l226 y226 z226 st226 hQ226
      rw [l226, y226, z226] at X226
      obtain ⟨rfl, N226q, K226q⟩ := hQ226
      have N227 := Fr.app N224 N226q
      have q228 : (if ((nar .byte (((nar .byte (p0_2.toInt8.toInt32)) ^^^ (-1 : Int32)).toInt8.toInt32)) &&& (255 : Int32)) = (if (2 : Int32) < (0 : Int32) then (p0_2 &&& (255 : Int32)) else ((255 : Int32) - (p0_2 &&& (255 : Int32)))) then (1 : Int32) else (0 : Int32)) = (1 : Int32) := if_pos ((own_k2 _).trans (if_neg (by decide)).symm)
      obtain ⟨fs, hr, hrun, hended, hW, hsame⟩ := X226.leave (v := some (.int (1 : Int32))) (fun h => by rw [Bd.returns] at h; cases h)
      refine ⟨_, _, pre204 _ ?_, hrun, hended, _, _, rfl, ?_, ⟨_, rfl⟩, hW, hsame.mono (by decide) (by decide)⟩
      · show Steps p.tables e below (T199.setTop (mkF m 93 #[iv p0_0, iv p0_1, iv p0_2, iv p0_3, iv p0_4, iv p0_5, iv (3 : Int32), .val (.long (cp.toInt64)), .second, iv (0 : Int32), rv b173, .unset] [(.ref b173)])) _
        refine XS.iload X199.here hx rfl (hb hby at_93) rfl ?_
        show Steps p.tables e below (T199.setTop (mkF m 95 #[iv p0_0, iv p0_1, iv p0_2, iv p0_3, iv p0_4, iv p0_5, iv (3 : Int32), .val (.long (cp.toInt64)), .second, iv (0 : Int32), rv b173, .unset] [(.int (0 : Int32)), (.ref b173)])) _
        refine st206.trans ?_
        show Steps p.tables e below (T206.setTop (mkF m 98 #[iv p0_0, iv p0_1, iv p0_2, iv p0_3, iv p0_4, iv p0_5, iv (3 : Int32), .val (.long (cp.toInt64)), .second, iv (0 : Int32), rv b173, .unset] [])) _
        refine XS.aload X206.here hx rfl (hb hby at_98) rfl rfl ?_
        show Steps p.tables e below (T206.setTop (mkF m 100 #[iv p0_0, iv p0_1, iv p0_2, iv p0_3, iv p0_4, iv p0_5, iv (3 : Int32), .val (.long (cp.toInt64)), .second, iv (0 : Int32), rv b173, .unset] [(.ref b173)])) _
        refine st213.trans ?_
        show Steps p.tables e below (T213.setTop (mkF m 103 #[iv p0_0, iv p0_1, iv p0_2, iv p0_3, iv p0_4, iv p0_5, iv (3 : Int32), .val (.long (cp.toInt64)), .second, iv (0 : Int32), rv b173, .unset] [(.ref b_213)])) _
        refine XS.astore X213.here hx rfl (hb hby at_103) rfl rfl (l' := #[iv p0_0, iv p0_1, iv p0_2, iv p0_3, iv p0_4, iv p0_5, iv (3 : Int32), .val (.long (cp.toInt64)), .second, iv (0 : Int32), rv b173, rv b_213]) rfl ?_
        show Steps p.tables e below (T213.setTop (mkF m 105 #[iv p0_0, iv p0_1, iv p0_2, iv p0_3, iv p0_4, iv p0_5, iv (3 : Int32), .val (.long (cp.toInt64)), .second, iv (0 : Int32), rv b173, rv b_213] [])) _
        refine XS.aload X213.here hx rfl (hb hby at_105) rfl rfl ?_
        show Steps p.tables e below (T213.setTop (mkF m 107 #[iv p0_0, iv p0_1, iv p0_2, iv p0_3, iv p0_4, iv p0_5, iv (3 : Int32), .val (.long (cp.toInt64)), .second, iv (0 : Int32), rv b173, rv b_213] [(.ref b_213)])) _
        refine X213.arraylength hx (Ar218.1) (State.isArrayOf_alike hZ.alike Ar218.2.1) (g := (mkF m 107 #[iv p0_0, iv p0_1, iv p0_2, iv p0_3, iv p0_4, iv p0_5, iv (3 : Int32), .val (.long (cp.toInt64)), .second, iv (0 : Int32), rv b173, rv b_213] [(.ref b_213)])) rfl rfl (hb hby at_107) _ ?_
        rw [len_of Sz218 Nn218]
        show Steps p.tables e below (T213.setTop (mkF m 108 #[iv p0_0, iv p0_1, iv p0_2, iv p0_3, iv p0_4, iv p0_5, iv (3 : Int32), .val (.long (cp.toInt64)), .second, iv (0 : Int32), rv b173, rv b_213] [(.int (3 : Int32))])) _
        refine XS.iload X213.here hx rfl (hb hby at_108) rfl ?_
        refine XS.icmpYes X213.here hx rfl (pc0 := 110) (pc' := 115) rfl (hb hby at_110) rfl (teq (by decide : (3 : Int32) = (3 : Int32))).1 (by decide) (by decide) ?_
        show Steps p.tables e below (T213.setTop (mkF m 115 #[iv p0_0, iv p0_1, iv p0_2, iv p0_3, iv p0_4, iv p0_5, iv (3 : Int32), .val (.long (cp.toInt64)), .second, iv (0 : Int32), rv b173, rv b_213] [])) _
        refine XS.iload X213.here hx rfl (hb hby at_115) rfl ?_
        refine XS.iconst X213.here hx rfl (hb hby at_117) ?_
        refine XS.icmpNo X213.here hx rfl (hb hby at_118) rfl (flt (by decide : ¬ ((3 : Int32) < (1 : Int32)))).1 ?_
        refine XS.aload X213.here hx rfl (hb hby at_121) rfl rfl ?_
        show Steps p.tables e below (T213.setTop (mkF m 123 #[iv p0_0, iv p0_1, iv p0_2, iv p0_3, iv p0_4, iv p0_5, iv (3 : Int32), .val (.long (cp.toInt64)), .second, iv (0 : Int32), rv b173, rv b_213] [(.ref b_213)])) _
        refine XS.iconst X213.here hx rfl (hb hby at_123) ?_
        refine XS.iloadN X213.here hx rfl (hb hby at_124) rfl ?_
        refine XS.iload X213.here hx rfl (hb hby at_125) rfl ?_
        show Steps p.tables e below (T213.setTop (mkF m 127 #[iv p0_0, iv p0_1, iv p0_2, iv p0_3, iv p0_4, iv p0_5, iv (3 : Int32), .val (.long (cp.toInt64)), .second, iv (0 : Int32), rv b173, rv b_213] [(.int (0 : Int32)), (.int p0_0), (.int (0 : Int32)), (.ref b_213)])) _
        refine st219 _ ?_
        show Steps p.tables e below (T219.setTop (mkF m 130 #[iv p0_0, iv p0_1, iv p0_2, iv p0_3, iv p0_4, iv p0_5, iv (3 : Int32), .val (.long (cp.toInt64)), .second, iv (0 : Int32), rv b173, rv b_213] [(.int (if ((nar .byte (((nar .byte (p0_0.toInt8.toInt32)) ^^^ (-1 : Int32)).toInt8.toInt32)) &&& (255 : Int32)) = (if (0 : Int32) < (0 : Int32) then (p0_0 &&& (255 : Int32)) else ((255 : Int32) - (p0_0 &&& (255 : Int32)))) then (1 : Int32) else (0 : Int32)))])) _
        rw [q222]
        show Steps p.tables e below (T219.setTop (mkF m 130 #[iv p0_0, iv p0_1, iv p0_2, iv p0_3, iv p0_4, iv p0_5, iv (3 : Int32), .val (.long (cp.toInt64)), .second, iv (0 : Int32), rv b173, rv b_213] [(.int (1 : Int32))])) _
        show Steps p.tables e below (T219.setTop (mkF m 130 #[iv p0_0, iv p0_1, iv p0_2, iv p0_3, iv p0_4, iv p0_5, iv (3 : Int32), .val (.long (cp.toInt64)), .second, iv (0 : Int32), rv b173, rv b_213] [(.int (1 : Int32))])) _
        refine XS.ifNo X219.here hx rfl (hb hby at_130) rfl ((if0 _ _).trans (feq (by decide : ¬ ((1 : Int32) = (0 : Int32)))).1) ?_
        refine XS.iload X219.here hx rfl (hb hby at_133) rfl ?_
        show Steps p.tables e below (T219.setTop (mkF m 135 #[iv p0_0, iv p0_1, iv p0_2, iv p0_3, iv p0_4, iv p0_5, iv (3 : Int32), .val (.long (cp.toInt64)), .second, iv (0 : Int32), rv b173, rv b_213] [(.int (3 : Int32))])) _
        refine XS.iconst X219.here hx rfl (hb hby at_135) ?_
        refine XS.icmpNo X219.here hx rfl (hb hby at_136) rfl (flt (by decide : ¬ ((3 : Int32) < (2 : Int32)))).1 ?_
        refine XS.aload X219.here hx rfl (hb hby at_139) rfl rfl ?_
        refine XS.iconst X219.here hx rfl (hb hby at_141) ?_
        show Steps p.tables e below (T219.setTop (mkF m 142 #[iv p0_0, iv p0_1, iv p0_2, iv p0_3, iv p0_4, iv p0_5, iv (3 : Int32), .val (.long (cp.toInt64)), .second, iv (0 : Int32), rv b173, rv b_213] [(.int (1 : Int32)), (.ref b_213)])) _
        refine XS.iloadN X219.here hx rfl (hb hby at_142) rfl ?_
        refine XS.iload X219.here hx rfl (hb hby at_143) rfl ?_
        show Steps p.tables e below (T219.setTop (mkF m 145 #[iv p0_0, iv p0_1, iv p0_2, iv p0_3, iv p0_4, iv p0_5, iv (3 : Int32), .val (.long (cp.toInt64)), .second, iv (0 : Int32), rv b173, rv b_213] [(.int (0 : Int32)), (.int p0_1), (.int (1 : Int32)), (.ref b_213)])) _
        refine st223 _ ?_
        show Steps p.tables e below (T223.setTop (mkF m 148 #[iv p0_0, iv p0_1, iv p0_2, iv p0_3, iv p0_4, iv p0_5, iv (3 : Int32), .val (.long (cp.toInt64)), .second, iv (0 : Int32), rv b173, rv b_213] [(.int (if ((nar .byte (((nar .byte (p0_1.toInt8.toInt32)) ^^^ (-1 : Int32)).toInt8.toInt32)) &&& (255 : Int32)) = (if (1 : Int32) < (0 : Int32) then (p0_1 &&& (255 : Int32)) else ((255 : Int32) - (p0_1 &&& (255 : Int32)))) then (1 : Int32) else (0 : Int32)))])) _
        rw [q225]
        show Steps p.tables e below (T223.setTop (mkF m 148 #[iv p0_0, iv p0_1, iv p0_2, iv p0_3, iv p0_4, iv p0_5, iv (3 : Int32), .val (.long (cp.toInt64)), .second, iv (0 : Int32), rv b173, rv b_213] [(.int (1 : Int32))])) _
        show Steps p.tables e below (T223.setTop (mkF m 148 #[iv p0_0, iv p0_1, iv p0_2, iv p0_3, iv p0_4, iv p0_5, iv (3 : Int32), .val (.long (cp.toInt64)), .second, iv (0 : Int32), rv b173, rv b_213] [(.int (1 : Int32))])) _
        refine XS.ifNo X223.here hx rfl (hb hby at_148) rfl ((if0 _ _).trans (feq (by decide : ¬ ((1 : Int32) = (0 : Int32)))).1) ?_
        refine XS.iload X223.here hx rfl (hb hby at_151) rfl ?_
        refine XS.iconst X223.here hx rfl (hb hby at_153) ?_
        show Steps p.tables e below (T223.setTop (mkF m 154 #[iv p0_0, iv p0_1, iv p0_2, iv p0_3, iv p0_4, iv p0_5, iv (3 : Int32), .val (.long (cp.toInt64)), .second, iv (0 : Int32), rv b173, rv b_213] [(.int (3 : Int32)), (.int (3 : Int32))])) _
        refine XS.icmpNo X223.here hx rfl (hb hby at_154) rfl (flt (by decide : ¬ ((3 : Int32) < (3 : Int32)))).1 ?_
        refine XS.aload X223.here hx rfl (hb hby at_157) rfl rfl ?_
        refine XS.iconst X223.here hx rfl (hb hby at_159) ?_
        refine XS.iloadN X223.here hx rfl (hb hby at_160) rfl ?_
        show Steps p.tables e below (T223.setTop (mkF m 161 #[iv p0_0, iv p0_1, iv p0_2, iv p0_3, iv p0_4, iv p0_5, iv (3 : Int32), .val (.long (cp.toInt64)), .second, iv (0 : Int32), rv b173, rv b_213] [(.int p0_2), (.int (2 : Int32)), (.ref b_213)])) _
        refine XS.iload X223.here hx rfl (hb hby at_161) rfl ?_
        show Steps p.tables e below (T223.setTop (mkF m 163 #[iv p0_0, iv p0_1, iv p0_2, iv p0_3, iv p0_4, iv p0_5, iv (3 : Int32), .val (.long (cp.toInt64)), .second, iv (0 : Int32), rv b173, rv b_213] [(.int (0 : Int32)), (.int p0_2), (.int (2 : Int32)), (.ref b_213)])) _
        refine st226 _ ?_
        show Steps p.tables e below (T226.setTop (mkF m 166 #[iv p0_0, iv p0_1, iv p0_2, iv p0_3, iv p0_4, iv p0_5, iv (3 : Int32), .val (.long (cp.toInt64)), .second, iv (0 : Int32), rv b173, rv b_213] [(.int (if ((nar .byte (((nar .byte (p0_2.toInt8.toInt32)) ^^^ (-1 : Int32)).toInt8.toInt32)) &&& (255 : Int32)) = (if (2 : Int32) < (0 : Int32) then (p0_2 &&& (255 : Int32)) else ((255 : Int32) - (p0_2 &&& (255 : Int32)))) then (1 : Int32) else (0 : Int32)))])) _
        rw [q228]
        show Steps p.tables e below (T226.setTop (mkF m 166 #[iv p0_0, iv p0_1, iv p0_2, iv p0_3, iv p0_4, iv p0_5, iv (3 : Int32), .val (.long (cp.toInt64)), .second, iv (0 : Int32), rv b173, rv b_213] [(.int (1 : Int32))])) _
        show Steps p.tables e below (T226.setTop (mkF m 166 #[iv p0_0, iv p0_1, iv p0_2, iv p0_3, iv p0_4, iv p0_5, iv (3 : Int32), .val (.long (cp.toInt64)), .second, iv (0 : Int32), rv b173, rv b_213] [(.int (1 : Int32))])) _
        refine XS.ifNo X226.here hx rfl (hb hby at_166) rfl ((if0 _ _).trans (feq (by decide : ¬ ((1 : Int32) = (0 : Int32)))).1) ?_
        refine XS.iload X226.here hx rfl (hb hby at_169) rfl ?_
        refine XS.iconst X226.here hx rfl (hb hby at_171) ?_
        refine XS.icmpYes X226.here hx rfl (pc0 := 172) (pc' := 187) rfl (hb hby at_172) rfl (tlt (by decide : (3 : Int32) < (4 : Int32))).1 (by decide) (by decide) ?_
        show Steps p.tables e below (T226.setTop (mkF m 187 #[iv p0_0, iv p0_1, iv p0_2, iv p0_3, iv p0_4, iv p0_5, iv (3 : Int32), .val (.long (cp.toInt64)), .second, iv (0 : Int32), rv b173, rv b_213] [])) _
        refine XS.iconst X226.here hx rfl (hb hby at_187) ?_
        refine XS.goto X226.here hx rfl (pc0 := 188) (pc' := 192) rfl (hb hby at_188) (by decide) (by decide) ?_
        show Steps p.tables e below (T226.setTop (mkF m 192 #[iv p0_0, iv p0_1, iv p0_2, iv p0_3, iv p0_4, iv p0_5, iv (3 : Int32), .val (.long (cp.toInt64)), .second, iv (0 : Int32), rv b173, rv b_213] [(.int (1 : Int32))])) _
        exact retN X226 hx (t := .boolean) Bd.returns (by simp) (hb hby at_192) hr
      · show Q_rm0 Z _ _ _ _ _ _ h0 n0 _ T226.heap _
        rw [K226q]
        exact ⟨rfl, N227, (K217)⟩
    · skip
      have f230 := (Nat.le_trans f200 K199q.1)
      have f231 := (f198.keep K199q)
      obtain ⟨cq229, kq229, q229a, q229b, q229c⟩ := isOf hZ rfl f231
      obtain ⟨_, _, ⟨T229, L229, k229, n229⟩, -, X229, ⟨Lc229, hQ229, l229, y229, z229⟩, st229⟩ := X199.virtualBack hx (y := MN9) (z := MN9) hown (mvT hZ wo43) (mvT hZ wo44) (notFace_of_selects (args := #[]) (mvT hZ wo46)) (mvT hZ wo46) (mvT hZ wo45) (by decide) (backOf (W := 0) (rm_in3_1 l Z a0 hw [] b173 ar2_199 ln2_199 (nar .byte (p0_0.toInt8.toInt32)) (nar .byte (p0_1.toInt8.toInt32)) (nar .byte (p0_2.toInt8.toInt32)) (T199.heap) n0 f230 hq199_1 hq199_2 hq199_3 hq199_4 hq199_5 (hq199_6 : (3 : Int32).toInt ≤ ln2_199.toInt)) hZ wo47 wo3 (by decide) (by decide)) q229a q229c (g := (mkF m 95 #[iv p0_0, iv p0_1, iv p0_2, iv p0_3, iv p0_4, iv p0_5, iv (3 : Int32), .val (.long (cp.toInt64)), .second, iv (1 : Int32), rv b173, .unset] [(.int (1 : Int32)), (.ref b173)])) rfl (by rw [hml]; rfl) (Steps.refl _) (argsL := [(.int (1 : Int32))]) (rest := []) (lenOf pd_2 rfl) rfl (by show 2 * 0 + _ ≤ _; exact Nat.le_of_eq rfl) (hb hby at_95) (fun _ _ => ⟨rfl, rfl, (by decide : 5 + 0 ≤ _), (by decide : 16 + 0 ≤ _)⟩)
      dsimp only [Pt.U, Pt.locs, Pt.cells, Pt.slots] at X229 l229 y229 z229 st229 hQ229
      rw [l229, y229, z229] at X229
      obtain ⟨rfl, N229q, K229q, hq229_0⟩ := hQ229
      have N232 := Fr.app N201 N229q
      have K233 : Keep h0 T229.heap [] := (K202).trans K229q (allS (P := fun x => x ∈ [] ∨ h0.size ≤ x) (Or.inr bz203) all0)
      have f234 := (hq199_3.keep K229q (ninS hq199_2 nin0))
      have f235 := (hq199_4.keep K229q (ninS hq199_2 nin0))
      have f237 := (Nat.le_trans f230 K229q.1)
      have f238 := (f231.keep K229q)
      obtain ⟨cq236, kq236, q236a, q236b, q236c⟩ := isOf hZ rfl f238
      obtain ⟨_, _, ⟨T236, L236, k236, n236⟩, -, X236, ⟨Lc236, hQ236, l236, y236, z236⟩, st236⟩ := X229.virtualBack hx (y := MN10) (z := MN10) hown (mvT hZ wo48) (mvT hZ wo49) (notFace_of_selects (args := #[]) (mvT hZ wo51)) (mvT hZ wo51) (mvT hZ wo50) (by decide) (backOf (W := 0) (rm_tb3 l Z a0 hw [] b173 ar2_199 ln2_199 (nar .byte (p0_0.toInt8.toInt32)) (nar .byte (((nar .byte (p0_1.toInt8.toInt32)) ^^^ (-1 : Int32)).toInt8.toInt32)) (nar .byte (((nar .byte (p0_2.toInt8.toInt32)) ^^^ (-1 : Int32)).toInt8.toInt32)) (T229.heap) n0 f237 f234 f235 hq229_0 (hq199_6 : (3 : Int32).toInt ≤ ln2_199.toInt)) hZ wo52 wo3 (by decide) (by decide)) q236a q236c (g := (mkF m 100 #[iv p0_0, iv p0_1, iv p0_2, iv p0_3, iv p0_4, iv p0_5, iv (3 : Int32), .val (.long (cp.toInt64)), .second, iv (1 : Int32), rv b173, .unset] [(.ref b173)])) rfl (by rw [hml]; rfl) (Steps.refl _) (argsL := []) (rest := []) (lenOf pd_1 rfl) rfl (by show 2 * 0 + _ ≤ _; exact Nat.le_of_eq rfl) (hb hby at_100) (fun _ _ => ⟨rfl, rfl, (by decide : 5 + 1 ≤ _), (by decide : 16 + 3 ≤ _)⟩)
      dsimp only [Pt.U, Pt.locs, Pt.cells, Pt.slots] at X236 l236 y236 z236 st236 hQ236
      rw [l236, y236, z236] at X236
      obtain ⟨b_236, rfl, N236q, K236q, hq236_0⟩ := hQ236
      have N239 := Fr.app N232 N236q
      have K240 : Keep h0 T236.heap [] := (K233).trans K236q all0
      obtain ⟨kk241, cl241, Ar241, qq241, Sz241, Nn241, Hs241, Gf241⟩ := id hq236_0
      have f243 := (Nat.le_trans f237 K236q.1)
      obtain ⟨_, _, ⟨T242, L242, k242, n242⟩, -, X242, ⟨Lc242, hQ242, l242, y242, z242⟩, st242⟩ := Jvm.LawKit.callS X236 hx (y := MN11) hown (mvT hZ wo53) (mvT hZ wo54) (mvT hZ wo55) (mvT hZ wo56) (by decide) (backOf (W := 0) (rm_ok3_0 l Z a0 hw [] b_236 p0_0 (1 : Int32) (nar .byte (p0_0.toInt8.toInt32)) (nar .byte (((nar .byte (p0_1.toInt8.toInt32)) ^^^ (-1 : Int32)).toInt8.toInt32)) (nar .byte (((nar .byte (p0_2.toInt8.toInt32)) ^^^ (-1 : Int32)).toInt8.toInt32)) (T236.heap) n0 f243 hq236_0) hZ wo56 wo55 (by decide) (by decide)) (g := (mkF m 127 #[iv p0_0, iv p0_1, iv p0_2, iv p0_3, iv p0_4, iv p0_5, iv (3 : Int32), .val (.long (cp.toInt64)), .second, iv (1 : Int32), rv b173, rv b_236] [(.int (1 : Int32)), (.int p0_0), (.int (0 : Int32)), (.ref b_236)])) rfl (by rw [hml]; rfl) (argsL := [(.ref b_236), (.int (0 : Int32)), (.int p0_0), (.int (1 : Int32))]) (rest := []) (lenOf pd_8 rfl) rfl (by show 2 * 0 + _ ≤ _; exact Nat.le_of_eq rfl) (hb hby at_127) (fun _ _ => ⟨rfl, rfl, (by decide : 6 + 0 ≤ _), (by decide : 19 + 0 ≤ _)⟩)
      dsimp only [Pt.U, Pt.locs, Pt.cells, Pt.slots] at X242 l242 y242 z242 st242 hQ242
      rw [l242, y242, z242] at X242
      obtain ⟨rfl, N242q, K242q⟩ := hQ242
      have N244 := Fr.app N239 N242q
      have q245 : (if ((nar .byte (p0_0.toInt8.toInt32)) &&& (255 : Int32)) = (if (0 : Int32) < (1 : Int32) then (p0_0 &&& (255 : Int32)) else ((255 : Int32) - (p0_0 &&& (255 : Int32)))) then (1 : Int32) else (0 : Int32)) = (1 : Int32) := if_pos ((own_k1 _).trans (if_pos (by decide)).symm)
      obtain ⟨_, _, ⟨T246, L246, k246, n246⟩, -, X246, ⟨Lc246, hQ246, l246, y246, z246⟩, st246⟩ := Jvm.LawKit.callS X242 hx (y := MN11) hown (mvT hZ wo53) (mvT hZ wo54) (mvT hZ wo55) (mvT hZ wo56) (by decide) (backOf (W := 0) (rm_ok3_1 l Z a0 hw [] b_236 p0_1 (1 : Int32) (nar .byte (p0_0.toInt8.toInt32)) (nar .byte (((nar .byte (p0_1.toInt8.toInt32)) ^^^ (-1 : Int32)).toInt8.toInt32)) (nar .byte (((nar .byte (p0_2.toInt8.toInt32)) ^^^ (-1 : Int32)).toInt8.toInt32)) (T236.heap) n0 f243 hq236_0) hZ wo56 wo55 (by decide) (by decide)) (g := (mkF m 145 #[iv p0_0, iv p0_1, iv p0_2, iv p0_3, iv p0_4, iv p0_5, iv (3 : Int32), .val (.long (cp.toInt64)), .second, iv (1 : Int32), rv b173, rv b_236] [(.int (1 : Int32)), (.int p0_1), (.int (1 : Int32)), (.ref b_236)])) rfl (by rw [hml]; rfl) (argsL := [(.ref b_236), (.int (1 : Int32)), (.int p0_1), (.int (1 : Int32))]) (rest := []) (lenOf pd_8 rfl) rfl (by show 2 * 0 + _ ≤ _; exact Nat.le_of_eq rfl) (hb hby at_145) (fun _ _ => ⟨rfl, K242q, (by decide : 6 + 0 ≤ _), (by decide : 19 + 0 ≤ _)⟩)
      dsimp only [Pt.U, Pt.locs, Pt.cells, Pt.slots] at X246 l246 y246 z246 st246 hQ246
      rw [l246, y246, z246] at X246
      obtain ⟨rfl, N246q, K246q⟩ := hQ246
      have N247 := Fr.app N244 N246q
      have q248 : (if ((nar .byte (((nar .byte (p0_1.toInt8.toInt32)) ^^^ (-1 : Int32)).toInt8.toInt32)) &&& (255 : Int32)) = (if (1 : Int32) < (1 : Int32) then (p0_1 &&& (255 : Int32)) else ((255 : Int32) - (p0_1 &&& (255 : Int32)))) then (1 : Int32) else (0 : Int32)) = (1 : Int32) := if_pos ((own_k2 _).trans (if_neg (by decide)).symm)
      obtain ⟨_, _, ⟨T249, L249, k249, n249⟩, -, X249, ⟨Lc249, hQ249, l249, y249, z249⟩, st249⟩ := Jvm.LawKit.callS X246 hx (y := MN11) hown (mvT hZ wo53) (mvT hZ wo54) (mvT hZ wo55) (mvT hZ wo56) (by decide) (backOf (W := 0) (rm_ok3_2 l Z a0 hw [] b_236 p0_2 (1 : Int32) (nar .byte (p0_0.toInt8.toInt32)) (nar .byte (((nar .byte (p0_1.toInt8.toInt32)) ^^^ (-1 : Int32)).toInt8.toInt32)) (nar .byte (((nar .byte (p0_2.toInt8.toInt32)) ^^^ (-1 : Int32)).toInt8.toInt32)) (T236.heap) n0 f243 hq236_0) hZ wo56 wo55 (by decide) (by decide)) (g := (mkF m 163 #[iv p0_0, iv p0_1, iv p0_2, iv p0_3, iv p0_4, iv p0_5, iv (3 : Int32), .val (.long (cp.toInt64)), .second, iv (1 : Int32), rv b173, rv b_236] [(.int (1 : Int32)), (.int p0_2), (.int (2 : Int32)), (.ref b_236)])) rfl (by rw [hml]; rfl) (argsL := [(.ref b_236), (.int (2 : Int32)), (.int p0_2), (.int (1 : Int32))]) (rest := []) (lenOf pd_8 rfl) rfl (by show 2 * 0 + _ ≤ _; exact Nat.le_of_eq rfl) (hb hby at_163) (fun _ _ => ⟨rfl, K246q, (by decide : 6 + 0 ≤ _), (by decide : 19 + 0 ≤ _)⟩)
      dsimp only [Pt.U, Pt.locs, Pt.cells, Pt.slots] at X249 l249 y249 z249 st249 hQ249
      rw [l249, y249, z249] at X249
      obtain ⟨rfl, N249q, K249q⟩ := hQ249
      have N250 := Fr.app N247 N249q
      have q251 : (if ((nar .byte (((nar .byte (p0_2.toInt8.toInt32)) ^^^ (-1 : Int32)).toInt8.toInt32)) &&& (255 : Int32)) = (if (2 : Int32) < (1 : Int32) then (p0_2 &&& (255 : Int32)) else ((255 : Int32) - (p0_2 &&& (255 : Int32)))) then (1 : Int32) else (0 : Int32)) = (1 : Int32) := if_pos ((own_k2 _).trans (if_neg (by decide)).symm)
      obtain ⟨fs, hr, hrun, hended, hW, hsame⟩ := X249.leave (v := some (.int (1 : Int32))) (fun h => by rw [Bd.returns] at h; cases h)
      refine ⟨_, _, pre204 _ ?_, hrun, hended, _, _, rfl, ?_, ⟨_, rfl⟩, hW, hsame.mono (by decide) (by decide)⟩
      · show Steps p.tables e below (T199.setTop (mkF m 93 #[iv p0_0, iv p0_1, iv p0_2, iv p0_3, iv p0_4, iv p0_5, iv (3 : Int32), .val (.long (cp.toInt64)), .second, iv (1 : Int32), rv b173, .unset] [(.ref b173)])) _
        refine XS.iload X199.here hx rfl (hb hby at_93) rfl ?_
        show Steps p.tables e below (T199.setTop (mkF m 95 #[iv p0_0, iv p0_1, iv p0_2, iv p0_3, iv p0_4, iv p0_5, iv (3 : Int32), .val (.long (cp.toInt64)), .second, iv (1 : Int32), rv b173, .unset] [(.int (1 : Int32)), (.ref b173)])) _
        refine st229.trans ?_
        show Steps p.tables e below (T229.setTop (mkF m 98 #[iv p0_0, iv p0_1, iv p0_2, iv p0_3, iv p0_4, iv p0_5, iv (3 : Int32), .val (.long (cp.toInt64)), .second, iv (1 : Int32), rv b173, .unset] [])) _
        refine XS.aload X229.here hx rfl (hb hby at_98) rfl rfl ?_
        show Steps p.tables e below (T229.setTop (mkF m 100 #[iv p0_0, iv p0_1, iv p0_2, iv p0_3, iv p0_4, iv p0_5, iv (3 : Int32), .val (.long (cp.toInt64)), .second, iv (1 : Int32), rv b173, .unset] [(.ref b173)])) _
        refine st236.trans ?_
        show Steps p.tables e below (T236.setTop (mkF m 103 #[iv p0_0, iv p0_1, iv p0_2, iv p0_3, iv p0_4, iv p0_5, iv (3 : Int32), .val (.long (cp.toInt64)), .second, iv (1 : Int32), rv b173, .unset] [(.ref b_236)])) _
        refine XS.astore X236.here hx rfl (hb hby at_103) rfl rfl (l' := #[iv p0_0, iv p0_1, iv p0_2, iv p0_3, iv p0_4, iv p0_5, iv (3 : Int32), .val (.long (cp.toInt64)), .second, iv (1 : Int32), rv b173, rv b_236]) rfl ?_
        refine XS.aload X236.here hx rfl (hb hby at_105) rfl rfl ?_
        show Steps p.tables e below (T236.setTop (mkF m 107 #[iv p0_0, iv p0_1, iv p0_2, iv p0_3, iv p0_4, iv p0_5, iv (3 : Int32), .val (.long (cp.toInt64)), .second, iv (1 : Int32), rv b173, rv b_236] [(.ref b_236)])) _
        refine X236.arraylength hx (Ar241.1) (State.isArrayOf_alike hZ.alike Ar241.2.1) (g := (mkF m 107 #[iv p0_0, iv p0_1, iv p0_2, iv p0_3, iv p0_4, iv p0_5, iv (3 : Int32), .val (.long (cp.toInt64)), .second, iv (1 : Int32), rv b173, rv b_236] [(.ref b_236)])) rfl rfl (hb hby at_107) _ ?_
        rw [len_of Sz241 Nn241]
        show Steps p.tables e below (T236.setTop (mkF m 108 #[iv p0_0, iv p0_1, iv p0_2, iv p0_3, iv p0_4, iv p0_5, iv (3 : Int32), .val (.long (cp.toInt64)), .second, iv (1 : Int32), rv b173, rv b_236] [(.int (3 : Int32))])) _
        refine XS.iload X236.here hx rfl (hb hby at_108) rfl ?_
        refine XS.icmpYes X236.here hx rfl (pc0 := 110) (pc' := 115) rfl (hb hby at_110) rfl (teq (by decide : (3 : Int32) = (3 : Int32))).1 (by decide) (by decide) ?_
        refine XS.iload X236.here hx rfl (hb hby at_115) rfl ?_
        show Steps p.tables e below (T236.setTop (mkF m 117 #[iv p0_0, iv p0_1, iv p0_2, iv p0_3, iv p0_4, iv p0_5, iv (3 : Int32), .val (.long (cp.toInt64)), .second, iv (1 : Int32), rv b173, rv b_236] [(.int (3 : Int32))])) _
        refine XS.iconst X236.here hx rfl (hb hby at_117) ?_
        refine XS.icmpNo X236.here hx rfl (hb hby at_118) rfl (flt (by decide : ¬ ((3 : Int32) < (1 : Int32)))).1 ?_
        refine XS.aload X236.here hx rfl (hb hby at_121) rfl rfl ?_
        refine XS.iconst X236.here hx rfl (hb hby at_123) ?_
        show Steps p.tables e below (T236.setTop (mkF m 124 #[iv p0_0, iv p0_1, iv p0_2, iv p0_3, iv p0_4, iv p0_5, iv (3 : Int32), .val (.long (cp.toInt64)), .second, iv (1 : Int32), rv b173, rv b_236] [(.int (0 : Int32)), (.ref b_236)])) _
        refine XS.iloadN X236.here hx rfl (hb hby at_124) rfl ?_
        refine XS.iload X236.here hx rfl (hb hby at_125) rfl ?_
        show Steps p.tables e below (T236.setTop (mkF m 127 #[iv p0_0, iv p0_1, iv p0_2, iv p0_3, iv p0_4, iv p0_5, iv (3 : Int32), .val (.long (cp.toInt64)), .second, iv (1 : Int32), rv b173, rv b_236] [(.int (1 : Int32)), (.int p0_0), (.int (0 : Int32)), (.ref b_236)])) _
        refine st242 _ ?_
        show Steps p.tables e below (T242.setTop (mkF m 130 #[iv p0_0, iv p0_1, iv p0_2, iv p0_3, iv p0_4, iv p0_5, iv (3 : Int32), .val (.long (cp.toInt64)), .second, iv (1 : Int32), rv b173, rv b_236] [(.int (if ((nar .byte (p0_0.toInt8.toInt32)) &&& (255 : Int32)) = (if (0 : Int32) < (1 : Int32) then (p0_0 &&& (255 : Int32)) else ((255 : Int32) - (p0_0 &&& (255 : Int32)))) then (1 : Int32) else (0 : Int32)))])) _
        rw [q245]
        show Steps p.tables e below (T242.setTop (mkF m 130 #[iv p0_0, iv p0_1, iv p0_2, iv p0_3, iv p0_4, iv p0_5, iv (3 : Int32), .val (.long (cp.toInt64)), .second, iv (1 : Int32), rv b173, rv b_236] [(.int (1 : Int32))])) _
        show Steps p.tables e below (T242.setTop (mkF m 130 #[iv p0_0, iv p0_1, iv p0_2, iv p0_3, iv p0_4, iv p0_5, iv (3 : Int32), .val (.long (cp.toInt64)), .second, iv (1 : Int32), rv b173, rv b_236] [(.int (1 : Int32))])) _
        refine XS.ifNo X242.here hx rfl (hb hby at_130) rfl ((if0 _ _).trans (feq (by decide : ¬ ((1 : Int32) = (0 : Int32)))).1) ?_
        refine XS.iload X242.here hx rfl (hb hby at_133) rfl ?_
        refine XS.iconst X242.here hx rfl (hb hby at_135) ?_
        show Steps p.tables e below (T242.setTop (mkF m 136 #[iv p0_0, iv p0_1, iv p0_2, iv p0_3, iv p0_4, iv p0_5, iv (3 : Int32), .val (.long (cp.toInt64)), .second, iv (1 : Int32), rv b173, rv b_236] [(.int (2 : Int32)), (.int (3 : Int32))])) _
        refine XS.icmpNo X242.here hx rfl (hb hby at_136) rfl (flt (by decide : ¬ ((3 : Int32) < (2 : Int32)))).1 ?_
        refine XS.aload X242.here hx rfl (hb hby at_139) rfl rfl ?_
        refine XS.iconst X242.here hx rfl (hb hby at_141) ?_
        refine XS.iloadN X242.here hx rfl (hb hby at_142) rfl ?_
        show Steps p.tables e below (T242.setTop (mkF m 143 #[iv p0_0, iv p0_1, iv p0_2, iv p0_3, iv p0_4, iv p0_5, iv (3 : Int32), .val (.long (cp.toInt64)), .second, iv (1 : Int32), rv b173, rv b_236] [(.int p0_1), (.int (1 : Int32)), (.ref b_236)])) _
        refine XS.iload X242.here hx rfl (hb hby at_143) rfl ?_
        show Steps p.tables e below (T242.setTop (mkF m 145 #[iv p0_0, iv p0_1, iv p0_2, iv p0_3, iv p0_4, iv p0_5, iv (3 : Int32), .val (.long (cp.toInt64)), .second, iv (1 : Int32), rv b173, rv b_236] [(.int (1 : Int32)), (.int p0_1), (.int (1 : Int32)), (.ref b_236)])) _
        refine st246 _ ?_
        show Steps p.tables e below (T246.setTop (mkF m 148 #[iv p0_0, iv p0_1, iv p0_2, iv p0_3, iv p0_4, iv p0_5, iv (3 : Int32), .val (.long (cp.toInt64)), .second, iv (1 : Int32), rv b173, rv b_236] [(.int (if ((nar .byte (((nar .byte (p0_1.toInt8.toInt32)) ^^^ (-1 : Int32)).toInt8.toInt32)) &&& (255 : Int32)) = (if (1 : Int32) < (1 : Int32) then (p0_1 &&& (255 : Int32)) else ((255 : Int32) - (p0_1 &&& (255 : Int32)))) then (1 : Int32) else (0 : Int32)))])) _
        rw [q248]
        show Steps p.tables e below (T246.setTop (mkF m 148 #[iv p0_0, iv p0_1, iv p0_2, iv p0_3, iv p0_4, iv p0_5, iv (3 : Int32), .val (.long (cp.toInt64)), .second, iv (1 : Int32), rv b173, rv b_236] [(.int (1 : Int32))])) _
        show Steps p.tables e below (T246.setTop (mkF m 148 #[iv p0_0, iv p0_1, iv p0_2, iv p0_3, iv p0_4, iv p0_5, iv (3 : Int32), .val (.long (cp.toInt64)), .second, iv (1 : Int32), rv b173, rv b_236] [(.int (1 : Int32))])) _
        refine XS.ifNo X246.here hx rfl (hb hby at_148) rfl ((if0 _ _).trans (feq (by decide : ¬ ((1 : Int32) = (0 : Int32)))).1) ?_
        refine XS.iload X246.here hx rfl (hb hby at_151) rfl ?_
        refine XS.iconst X246.here hx rfl (hb hby at_153) ?_
        refine XS.icmpNo X246.here hx rfl (hb hby at_154) rfl (flt (by decide : ¬ ((3 : Int32) < (3 : Int32)))).1 ?_
        show Steps p.tables e below (T246.setTop (mkF m 157 #[iv p0_0, iv p0_1, iv p0_2, iv p0_3, iv p0_4, iv p0_5, iv (3 : Int32), .val (.long (cp.toInt64)), .second, iv (1 : Int32), rv b173, rv b_236] [])) _
        refine XS.aload X246.here hx rfl (hb hby at_157) rfl rfl ?_
        refine XS.iconst X246.here hx rfl (hb hby at_159) ?_
        refine XS.iloadN X246.here hx rfl (hb hby at_160) rfl ?_
        refine XS.iload X246.here hx rfl (hb hby at_161) rfl ?_
        show Steps p.tables e below (T246.setTop (mkF m 163 #[iv p0_0, iv p0_1, iv p0_2, iv p0_3, iv p0_4, iv p0_5, iv (3 : Int32), .val (.long (cp.toInt64)), .second, iv (1 : Int32), rv b173, rv b_236] [(.int (1 : Int32)), (.int p0_2), (.int (2 : Int32)), (.ref b_236)])) _
        refine st249 _ ?_
        show Steps p.tables e below (T249.setTop (mkF m 166 #[iv p0_0, iv p0_1, iv p0_2, iv p0_3, iv p0_4, iv p0_5, iv (3 : Int32), .val (.long (cp.toInt64)), .second, iv (1 : Int32), rv b173, rv b_236] [(.int (if ((nar .byte (((nar .byte (p0_2.toInt8.toInt32)) ^^^ (-1 : Int32)).toInt8.toInt32)) &&& (255 : Int32)) = (if (2 : Int32) < (1 : Int32) then (p0_2 &&& (255 : Int32)) else ((255 : Int32) - (p0_2 &&& (255 : Int32)))) then (1 : Int32) else (0 : Int32)))])) _
        rw [q251]
        show Steps p.tables e below (T249.setTop (mkF m 166 #[iv p0_0, iv p0_1, iv p0_2, iv p0_3, iv p0_4, iv p0_5, iv (3 : Int32), .val (.long (cp.toInt64)), .second, iv (1 : Int32), rv b173, rv b_236] [(.int (1 : Int32))])) _
        show Steps p.tables e below (T249.setTop (mkF m 166 #[iv p0_0, iv p0_1, iv p0_2, iv p0_3, iv p0_4, iv p0_5, iv (3 : Int32), .val (.long (cp.toInt64)), .second, iv (1 : Int32), rv b173, rv b_236] [(.int (1 : Int32))])) _
        refine XS.ifNo X249.here hx rfl (hb hby at_166) rfl ((if0 _ _).trans (feq (by decide : ¬ ((1 : Int32) = (0 : Int32)))).1) ?_
        show Steps p.tables e below (T249.setTop (mkF m 169 #[iv p0_0, iv p0_1, iv p0_2, iv p0_3, iv p0_4, iv p0_5, iv (3 : Int32), .val (.long (cp.toInt64)), .second, iv (1 : Int32), rv b173, rv b_236] [])) _
        refine XS.iload X249.here hx rfl (hb hby at_169) rfl ?_
        refine XS.iconst X249.here hx rfl (hb hby at_171) ?_
        refine XS.icmpYes X249.here hx rfl (pc0 := 172) (pc' := 187) rfl (hb hby at_172) rfl (tlt (by decide : (3 : Int32) < (4 : Int32))).1 (by decide) (by decide) ?_
        refine XS.iconst X249.here hx rfl (hb hby at_187) ?_
        show Steps p.tables e below (T249.setTop (mkF m 188 #[iv p0_0, iv p0_1, iv p0_2, iv p0_3, iv p0_4, iv p0_5, iv (3 : Int32), .val (.long (cp.toInt64)), .second, iv (1 : Int32), rv b173, rv b_236] [(.int (1 : Int32))])) _
        refine XS.goto X249.here hx rfl (pc0 := 188) (pc' := 192) rfl (hb hby at_188) (by decide) (by decide) ?_
        show Steps p.tables e below (T249.setTop (mkF m 192 #[iv p0_0, iv p0_1, iv p0_2, iv p0_3, iv p0_4, iv p0_5, iv (3 : Int32), .val (.long (cp.toInt64)), .second, iv (1 : Int32), rv b173, rv b_236] [(.int (1 : Int32))])) _
        exact retN X249 hx (t := .boolean) Bd.returns (by simp) (hb hby at_192) hr
      · show Q_rm0 Z _ _ _ _ _ _ h0 n0 _ T249.heap _
        rw [K249q]
        exact ⟨rfl, N250, (K240)⟩
    · skip
      have f253 := (Nat.le_trans f200 K199q.1)
      have f254 := (f198.keep K199q)
      obtain ⟨cq252, kq252, q252a, q252b, q252c⟩ := isOf hZ rfl f254
      obtain ⟨_, _, ⟨T252, L252, k252, n252⟩, -, X252, ⟨Lc252, hQ252, l252, y252, z252⟩, st252⟩ := X199.virtualBack hx (y := MN9) (z := MN9) hown (mvT hZ wo43) (mvT hZ wo44) (notFace_of_selects (args := #[]) (mvT hZ wo46)) (mvT hZ wo46) (mvT hZ wo45) (by decide) (backOf (W := 0) (rm_in3_2 l Z a0 hw [] b173 ar2_199 ln2_199 (nar .byte (p0_0.toInt8.toInt32)) (nar .byte (p0_1.toInt8.toInt32)) (nar .byte (p0_2.toInt8.toInt32)) (T199.heap) n0 f253 hq199_1 hq199_2 hq199_3 hq199_4 hq199_5 (hq199_6 : (3 : Int32).toInt ≤ ln2_199.toInt)) hZ wo47 wo3 (by decide) (by decide)) q252a q252c (g := (mkF m 95 #[iv p0_0, iv p0_1, iv p0_2, iv p0_3, iv p0_4, iv p0_5, iv (3 : Int32), .val (.long (cp.toInt64)), .second, iv (2 : Int32), rv b173, .unset] [(.int (2 : Int32)), (.ref b173)])) rfl (by rw [hml]; rfl) (Steps.refl _) (argsL := [(.int (2 : Int32))]) (rest := []) (lenOf pd_2 rfl) rfl (by show 2 * 0 + _ ≤ _; exact Nat.le_of_eq rfl) (hb hby at_95) (fun _ _ => ⟨rfl, rfl, (by decide : 5 + 0 ≤ _), (by decide : 16 + 0 ≤ _)⟩)
      dsimp only [Pt.U, Pt.locs, Pt.cells, Pt.slots] at X252 l252 y252 z252 st252 hQ252
      rw [l252, y252, z252] at X252
      obtain ⟨rfl, N252q, K252q, hq252_0⟩ := hQ252
      have N255 := Fr.app N201 N252q
      have K256 : Keep h0 T252.heap [] := (K202).trans K252q (allS (P := fun x => x ∈ [] ∨ h0.size ≤ x) (Or.inr bz203) all0)
      have f257 := (hq199_3.keep K252q (ninS hq199_2 nin0))
      have f258 := (hq199_4.keep K252q (ninS hq199_2 nin0))
      have f260 := (Nat.le_trans f253 K252q.1)
      have f261 := (f254.keep K252q)
      obtain ⟨cq259, kq259, q259a, q259b, q259c⟩ := isOf hZ rfl f261
      obtain ⟨_, _, ⟨T259, L259, k259, n259⟩, -, X259, ⟨Lc259, hQ259, l259, y259, z259⟩, st259⟩ := X252.virtualBack hx (y := MN10) (z := MN10) hown (mvT hZ wo48) (mvT hZ wo49) (notFace_of_selects (args := #[]) (mvT hZ wo51)) (mvT hZ wo51) (mvT hZ wo50) (by decide) (backOf (W := 0) (rm_tb3 l Z a0 hw [] b173 ar2_199 ln2_199 (nar .byte (p0_0.toInt8.toInt32)) (nar .byte (p0_1.toInt8.toInt32)) (nar .byte (((nar .byte (p0_2.toInt8.toInt32)) ^^^ (-1 : Int32)).toInt8.toInt32)) (T252.heap) n0 f260 f257 f258 hq252_0 (hq199_6 : (3 : Int32).toInt ≤ ln2_199.toInt)) hZ wo52 wo3 (by decide) (by decide)) q259a q259c (g := (mkF m 100 #[iv p0_0, iv p0_1, iv p0_2, iv p0_3, iv p0_4, iv p0_5, iv (3 : Int32), .val (.long (cp.toInt64)), .second, iv (2 : Int32), rv b173, .unset] [(.ref b173)])) rfl (by rw [hml]; rfl) (Steps.refl _) (argsL := []) (rest := []) (lenOf pd_1 rfl) rfl (by show 2 * 0 + _ ≤ _; exact Nat.le_of_eq rfl) (hb hby at_100) (fun _ _ => ⟨rfl, rfl, (by decide : 5 + 1 ≤ _), (by decide : 16 + 3 ≤ _)⟩)
      dsimp only [Pt.U, Pt.locs, Pt.cells, Pt.slots] at X259 l259 y259 z259 st259 hQ259
      rw [l259, y259, z259] at X259
      obtain ⟨b_259, rfl, N259q, K259q, hq259_0⟩ := hQ259
      have N262 := Fr.app N255 N259q
      have K263 : Keep h0 T259.heap [] := (K256).trans K259q all0
      obtain ⟨kk264, cl264, Ar264, qq264, Sz264, Nn264, Hs264, Gf264⟩ := id hq259_0
      have f266 := (Nat.le_trans f260 K259q.1)
      obtain ⟨_, _, ⟨T265, L265, k265, n265⟩, -, X265, ⟨Lc265, hQ265, l265, y265, z265⟩, st265⟩ := Jvm.LawKit.callS X259 hx (y := MN11) hown (mvT hZ wo53) (mvT hZ wo54) (mvT hZ wo55) (mvT hZ wo56) (by decide) (backOf (W := 0) (rm_ok3_0 l Z a0 hw [] b_259 p0_0 (2 : Int32) (nar .byte (p0_0.toInt8.toInt32)) (nar .byte (p0_1.toInt8.toInt32)) (nar .byte (((nar .byte (p0_2.toInt8.toInt32)) ^^^ (-1 : Int32)).toInt8.toInt32)) (T259.heap) n0 f266 hq259_0) hZ wo56 wo55 (by decide) (by decide)) (g := (mkF m 127 #[iv p0_0, iv p0_1, iv p0_2, iv p0_3, iv p0_4, iv p0_5, iv (3 : Int32), .val (.long (cp.toInt64)), .second, iv (2 : Int32), rv b173, rv b_259] [(.int (2 : Int32)), (.int p0_0), (.int (0 : Int32)), (.ref b_259)])) rfl (by rw [hml]; rfl) (argsL := [(.ref b_259), (.int (0 : Int32)), (.int p0_0), (.int (2 : Int32))]) (rest := []) (lenOf pd_8 rfl) rfl (by show 2 * 0 + _ ≤ _; exact Nat.le_of_eq rfl) (hb hby at_127) (fun _ _ => ⟨rfl, rfl, (by decide : 6 + 0 ≤ _), (by decide : 19 + 0 ≤ _)⟩)
      dsimp only [Pt.U, Pt.locs, Pt.cells, Pt.slots] at X265 l265 y265 z265 st265 hQ265
      rw [l265, y265, z265] at X265
      obtain ⟨rfl, N265q, K265q⟩ := hQ265
      have N267 := Fr.app N262 N265q
      have q268 : (if ((nar .byte (p0_0.toInt8.toInt32)) &&& (255 : Int32)) = (if (0 : Int32) < (2 : Int32) then (p0_0 &&& (255 : Int32)) else ((255 : Int32) - (p0_0 &&& (255 : Int32)))) then (1 : Int32) else (0 : Int32)) = (1 : Int32) := if_pos ((own_k1 _).trans (if_pos (by decide)).symm)
      obtain ⟨_, _, ⟨T269, L269, k269, n269⟩, -, X269, ⟨Lc269, hQ269, l269, y269, z269⟩, st269⟩ := Jvm.LawKit.callS X265 hx (y := MN11) hown (mvT hZ wo53) (mvT hZ wo54) (mvT hZ wo55) (mvT hZ wo56) (by decide) (backOf (W := 0) (rm_ok3_1 l Z a0 hw [] b_259 p0_1 (2 : Int32) (nar .byte (p0_0.toInt8.toInt32)) (nar .byte (p0_1.toInt8.toInt32)) (nar .byte (((nar .byte (p0_2.toInt8.toInt32)) ^^^ (-1 : Int32)).toInt8.toInt32)) (T259.heap) n0 f266 hq259_0) hZ wo56 wo55 (by decide) (by decide)) (g := (mkF m 145 #[iv p0_0, iv p0_1, iv p0_2, iv p0_3, iv p0_4, iv p0_5, iv (3 : Int32), .val (.long (cp.toInt64)), .second, iv (2 : Int32), rv b173, rv b_259] [(.int (2 : Int32)), (.int p0_1), (.int (1 : Int32)), (.ref b_259)])) rfl (by rw [hml]; rfl) (argsL := [(.ref b_259), (.int (1 : Int32)), (.int p0_1), (.int (2 : Int32))]) (rest := []) (lenOf pd_8 rfl) rfl (by show 2 * 0 + _ ≤ _; exact Nat.le_of_eq rfl) (hb hby at_145) (fun _ _ => ⟨rfl, K265q, (by decide : 6 + 0 ≤ _), (by decide : 19 + 0 ≤ _)⟩)
      dsimp only [Pt.U, Pt.locs, Pt.cells, Pt.slots] at X269 l269 y269 z269 st269 hQ269
      rw [l269, y269, z269] at X269
      obtain ⟨rfl, N269q, K269q⟩ := hQ269
      have N270 := Fr.app N267 N269q
      have q271 : (if ((nar .byte (p0_1.toInt8.toInt32)) &&& (255 : Int32)) = (if (1 : Int32) < (2 : Int32) then (p0_1 &&& (255 : Int32)) else ((255 : Int32) - (p0_1 &&& (255 : Int32)))) then (1 : Int32) else (0 : Int32)) = (1 : Int32) := if_pos ((own_k1 _).trans (if_pos (by decide)).symm)
      obtain ⟨_, _, ⟨T272, L272, k272, n272⟩, -, X272, ⟨Lc272, hQ272, l272, y272, z272⟩, st272⟩ := Jvm.LawKit.callS X269 hx (y := MN11) hown (mvT hZ wo53) (mvT hZ wo54) (mvT hZ wo55) (mvT hZ wo56) (by decide) (backOf (W := 0) (rm_ok3_2 l Z a0 hw [] b_259 p0_2 (2 : Int32) (nar .byte (p0_0.toInt8.toInt32)) (nar .byte (p0_1.toInt8.toInt32)) (nar .byte (((nar .byte (p0_2.toInt8.toInt32)) ^^^ (-1 : Int32)).toInt8.toInt32)) (T259.heap) n0 f266 hq259_0) hZ wo56 wo55 (by decide) (by decide)) (g := (mkF m 163 #[iv p0_0, iv p0_1, iv p0_2, iv p0_3, iv p0_4, iv p0_5, iv (3 : Int32), .val (.long (cp.toInt64)), .second, iv (2 : Int32), rv b173, rv b_259] [(.int (2 : Int32)), (.int p0_2), (.int (2 : Int32)), (.ref b_259)])) rfl (by rw [hml]; rfl) (argsL := [(.ref b_259), (.int (2 : Int32)), (.int p0_2), (.int (2 : Int32))]) (rest := []) (lenOf pd_8 rfl) rfl (by show 2 * 0 + _ ≤ _; exact Nat.le_of_eq rfl) (hb hby at_163) (fun _ _ => ⟨rfl, K269q, (by decide : 6 + 0 ≤ _), (by decide : 19 + 0 ≤ _)⟩)
      dsimp only [Pt.U, Pt.locs, Pt.cells, Pt.slots] at X272 l272 y272 z272 st272 hQ272
      rw [l272, y272, z272] at X272
      obtain ⟨rfl, N272q, K272q⟩ := hQ272
      have N273 := Fr.app N270 N272q
      have q274 : (if ((nar .byte (((nar .byte (p0_2.toInt8.toInt32)) ^^^ (-1 : Int32)).toInt8.toInt32)) &&& (255 : Int32)) = (if (2 : Int32) < (2 : Int32) then (p0_2 &&& (255 : Int32)) else ((255 : Int32) - (p0_2 &&& (255 : Int32)))) then (1 : Int32) else (0 : Int32)) = (1 : Int32) := if_pos ((own_k2 _).trans (if_neg (by decide)).symm)
      obtain ⟨fs, hr, hrun, hended, hW, hsame⟩ := X272.leave (v := some (.int (1 : Int32))) (fun h => by rw [Bd.returns] at h; cases h)
      refine ⟨_, _, pre204 _ ?_, hrun, hended, _, _, rfl, ?_, ⟨_, rfl⟩, hW, hsame.mono (by decide) (by decide)⟩
      · show Steps p.tables e below (T199.setTop (mkF m 93 #[iv p0_0, iv p0_1, iv p0_2, iv p0_3, iv p0_4, iv p0_5, iv (3 : Int32), .val (.long (cp.toInt64)), .second, iv (2 : Int32), rv b173, .unset] [(.ref b173)])) _
        refine XS.iload X199.here hx rfl (hb hby at_93) rfl ?_
        show Steps p.tables e below (T199.setTop (mkF m 95 #[iv p0_0, iv p0_1, iv p0_2, iv p0_3, iv p0_4, iv p0_5, iv (3 : Int32), .val (.long (cp.toInt64)), .second, iv (2 : Int32), rv b173, .unset] [(.int (2 : Int32)), (.ref b173)])) _
        refine st252.trans ?_
        show Steps p.tables e below (T252.setTop (mkF m 98 #[iv p0_0, iv p0_1, iv p0_2, iv p0_3, iv p0_4, iv p0_5, iv (3 : Int32), .val (.long (cp.toInt64)), .second, iv (2 : Int32), rv b173, .unset] [])) _
        refine XS.aload X252.here hx rfl (hb hby at_98) rfl rfl ?_
        show Steps p.tables e below (T252.setTop (mkF m 100 #[iv p0_0, iv p0_1, iv p0_2, iv p0_3, iv p0_4, iv p0_5, iv (3 : Int32), .val (.long (cp.toInt64)), .second, iv (2 : Int32), rv b173, .unset] [(.ref b173)])) _
        refine st259.trans ?_
        show Steps p.tables e below (T259.setTop (mkF m 103 #[iv p0_0, iv p0_1, iv p0_2, iv p0_3, iv p0_4, iv p0_5, iv (3 : Int32), .val (.long (cp.toInt64)), .second, iv (2 : Int32), rv b173, .unset] [(.ref b_259)])) _
        refine XS.astore X259.here hx rfl (hb hby at_103) rfl rfl (l' := #[iv p0_0, iv p0_1, iv p0_2, iv p0_3, iv p0_4, iv p0_5, iv (3 : Int32), .val (.long (cp.toInt64)), .second, iv (2 : Int32), rv b173, rv b_259]) rfl ?_
        refine XS.aload X259.here hx rfl (hb hby at_105) rfl rfl ?_
        show Steps p.tables e below (T259.setTop (mkF m 107 #[iv p0_0, iv p0_1, iv p0_2, iv p0_3, iv p0_4, iv p0_5, iv (3 : Int32), .val (.long (cp.toInt64)), .second, iv (2 : Int32), rv b173, rv b_259] [(.ref b_259)])) _
        refine X259.arraylength hx (Ar264.1) (State.isArrayOf_alike hZ.alike Ar264.2.1) (g := (mkF m 107 #[iv p0_0, iv p0_1, iv p0_2, iv p0_3, iv p0_4, iv p0_5, iv (3 : Int32), .val (.long (cp.toInt64)), .second, iv (2 : Int32), rv b173, rv b_259] [(.ref b_259)])) rfl rfl (hb hby at_107) _ ?_
        rw [len_of Sz264 Nn264]
        show Steps p.tables e below (T259.setTop (mkF m 108 #[iv p0_0, iv p0_1, iv p0_2, iv p0_3, iv p0_4, iv p0_5, iv (3 : Int32), .val (.long (cp.toInt64)), .second, iv (2 : Int32), rv b173, rv b_259] [(.int (3 : Int32))])) _
        refine XS.iload X259.here hx rfl (hb hby at_108) rfl ?_
        refine XS.icmpYes X259.here hx rfl (pc0 := 110) (pc' := 115) rfl (hb hby at_110) rfl (teq (by decide : (3 : Int32) = (3 : Int32))).1 (by decide) (by decide) ?_
        refine XS.iload X259.here hx rfl (hb hby at_115) rfl ?_
        refine XS.iconst X259.here hx rfl (hb hby at_117) ?_
        show Steps p.tables e below (T259.setTop (mkF m 118 #[iv p0_0, iv p0_1, iv p0_2, iv p0_3, iv p0_4, iv p0_5, iv (3 : Int32), .val (.long (cp.toInt64)), .second, iv (2 : Int32), rv b173, rv b_259] [(.int (1 : Int32)), (.int (3 : Int32))])) _
        refine XS.icmpNo X259.here hx rfl (hb hby at_118) rfl (flt (by decide : ¬ ((3 : Int32) < (1 : Int32)))).1 ?_
        refine XS.aload X259.here hx rfl (hb hby at_121) rfl rfl ?_
        refine XS.iconst X259.here hx rfl (hb hby at_123) ?_
        refine XS.iloadN X259.here hx rfl (hb hby at_124) rfl ?_
        show Steps p.tables e below (T259.setTop (mkF m 125 #[iv p0_0, iv p0_1, iv p0_2, iv p0_3, iv p0_4, iv p0_5, iv (3 : Int32), .val (.long (cp.toInt64)), .second, iv (2 : Int32), rv b173, rv b_259] [(.int p0_0), (.int (0 : Int32)), (.ref b_259)])) _
        refine XS.iload X259.here hx rfl (hb hby at_125) rfl ?_
        show Steps p.tables e below (T259.setTop (mkF m 127 #[iv p0_0, iv p0_1, iv p0_2, iv p0_3, iv p0_4, iv p0_5, iv (3 : Int32), .val (.long (cp.toInt64)), .second, iv (2 : Int32), rv b173, rv b_259] [(.int (2 : Int32)), (.int p0_0), (.int (0 : Int32)), (.ref b_259)])) _
        refine st265 _ ?_
        show Steps p.tables e below (T265.setTop (mkF m 130 #[iv p0_0, iv p0_1, iv p0_2, iv p0_3, iv p0_4, iv p0_5, iv (3 : Int32), .val (.long (cp.toInt64)), .second, iv (2 : Int32), rv b173, rv b_259] [(.int (if ((nar .byte (p0_0.toInt8.toInt32)) &&& (255 : Int32)) = (if (0 : Int32) < (2 : Int32) then (p0_0 &&& (255 : Int32)) else ((255 : Int32) - (p0_0 &&& (255 : Int32)))) then (1 : Int32) else (0 : Int32)))])) _
        rw [q268]
        show Steps p.tables e below (T265.setTop (mkF m 130 #[iv p0_0, iv p0_1, iv p0_2, iv p0_3, iv p0_4, iv p0_5, iv (3 : Int32), .val (.long (cp.toInt64)), .second, iv (2 : Int32), rv b173, rv b_259] [(.int (1 : Int32))])) _
        show Steps p.tables e below (T265.setTop (mkF m 130 #[iv p0_0, iv p0_1, iv p0_2, iv p0_3, iv p0_4, iv p0_5, iv (3 : Int32), .val (.long (cp.toInt64)), .second, iv (2 : Int32), rv b173, rv b_259] [(.int (1 : Int32))])) _
        refine XS.ifNo X265.here hx rfl (hb hby at_130) rfl ((if0 _ _).trans (feq (by decide : ¬ ((1 : Int32) = (0 : Int32)))).1) ?_
        refine XS.iload X265.here hx rfl (hb hby at_133) rfl ?_
        refine XS.iconst X265.here hx rfl (hb hby at_135) ?_
        refine XS.icmpNo X265.here hx rfl (hb hby at_136) rfl (flt (by decide : ¬ ((3 : Int32) < (2 : Int32)))).1 ?_
        show Steps p.tables e below (T265.setTop (mkF m 139 #[iv p0_0, iv p0_1, iv p0_2, iv p0_3, iv p0_4, iv p0_5, iv (3 : Int32), .val (.long (cp.toInt64)), .second, iv (2 : Int32), rv b173, rv b_259] [])) _
        refine XS.aload X265.here hx rfl (hb hby at_139) rfl rfl ?_
        refine XS.iconst X265.here hx rfl (hb hby at_141) ?_
        refine XS.iloadN X265.here hx rfl (hb hby at_142) rfl ?_
        refine XS.iload X265.here hx rfl (hb hby at_143) rfl ?_
        show Steps p.tables e below (T265.setTop (mkF m 145 #[iv p0_0, iv p0_1, iv p0_2, iv p0_3, iv p0_4, iv p0_5, iv (3 : Int32), .val (.long (cp.toInt64)), .second, iv (2 : Int32), rv b173, rv b_259] [(.int (2 : Int32)), (.int p0_1), (.int (1 : Int32)), (.ref b_259)])) _
        refine st269 _ ?_
        show Steps p.tables e below (T269.setTop (mkF m 148 #[iv p0_0, iv p0_1, iv p0_2, iv p0_3, iv p0_4, iv p0_5, iv (3 : Int32), .val (.long (cp.toInt64)), .second, iv (2 : Int32), rv b173, rv b_259] [(.int (if ((nar .byte (p0_1.toInt8.toInt32)) &&& (255 : Int32)) = (if (1 : Int32) < (2 : Int32) then (p0_1 &&& (255 : Int32)) else ((255 : Int32) - (p0_1 &&& (255 : Int32)))) then (1 : Int32) else (0 : Int32)))])) _
        rw [q271]
        show Steps p.tables e below (T269.setTop (mkF m 148 #[iv p0_0, iv p0_1, iv p0_2, iv p0_3, iv p0_4, iv p0_5, iv (3 : Int32), .val (.long (cp.toInt64)), .second, iv (2 : Int32), rv b173, rv b_259] [(.int (1 : Int32))])) _
        show Steps p.tables e below (T269.setTop (mkF m 148 #[iv p0_0, iv p0_1, iv p0_2, iv p0_3, iv p0_4, iv p0_5, iv (3 : Int32), .val (.long (cp.toInt64)), .second, iv (2 : Int32), rv b173, rv b_259] [(.int (1 : Int32))])) _
        refine XS.ifNo X269.here hx rfl (hb hby at_148) rfl ((if0 _ _).trans (feq (by decide : ¬ ((1 : Int32) = (0 : Int32)))).1) ?_
        show Steps p.tables e below (T269.setTop (mkF m 151 #[iv p0_0, iv p0_1, iv p0_2, iv p0_3, iv p0_4, iv p0_5, iv (3 : Int32), .val (.long (cp.toInt64)), .second, iv (2 : Int32), rv b173, rv b_259] [])) _
        refine XS.iload X269.here hx rfl (hb hby at_151) rfl ?_
        refine XS.iconst X269.here hx rfl (hb hby at_153) ?_
        refine XS.icmpNo X269.here hx rfl (hb hby at_154) rfl (flt (by decide : ¬ ((3 : Int32) < (3 : Int32)))).1 ?_
        refine XS.aload X269.here hx rfl (hb hby at_157) rfl rfl ?_
        show Steps p.tables e below (T269.setTop (mkF m 159 #[iv p0_0, iv p0_1, iv p0_2, iv p0_3, iv p0_4, iv p0_5, iv (3 : Int32), .val (.long (cp.toInt64)), .second, iv (2 : Int32), rv b173, rv b_259] [(.ref b_259)])) _
        refine XS.iconst X269.here hx rfl (hb hby at_159) ?_
        refine XS.iloadN X269.here hx rfl (hb hby at_160) rfl ?_
        refine XS.iload X269.here hx rfl (hb hby at_161) rfl ?_
        show Steps p.tables e below (T269.setTop (mkF m 163 #[iv p0_0, iv p0_1, iv p0_2, iv p0_3, iv p0_4, iv p0_5, iv (3 : Int32), .val (.long (cp.toInt64)), .second, iv (2 : Int32), rv b173, rv b_259] [(.int (2 : Int32)), (.int p0_2), (.int (2 : Int32)), (.ref b_259)])) _
        refine st272 _ ?_
        show Steps p.tables e below (T272.setTop (mkF m 166 #[iv p0_0, iv p0_1, iv p0_2, iv p0_3, iv p0_4, iv p0_5, iv (3 : Int32), .val (.long (cp.toInt64)), .second, iv (2 : Int32), rv b173, rv b_259] [(.int (if ((nar .byte (((nar .byte (p0_2.toInt8.toInt32)) ^^^ (-1 : Int32)).toInt8.toInt32)) &&& (255 : Int32)) = (if (2 : Int32) < (2 : Int32) then (p0_2 &&& (255 : Int32)) else ((255 : Int32) - (p0_2 &&& (255 : Int32)))) then (1 : Int32) else (0 : Int32)))])) _
        rw [q274]
        show Steps p.tables e below (T272.setTop (mkF m 166 #[iv p0_0, iv p0_1, iv p0_2, iv p0_3, iv p0_4, iv p0_5, iv (3 : Int32), .val (.long (cp.toInt64)), .second, iv (2 : Int32), rv b173, rv b_259] [(.int (1 : Int32))])) _
        show Steps p.tables e below (T272.setTop (mkF m 166 #[iv p0_0, iv p0_1, iv p0_2, iv p0_3, iv p0_4, iv p0_5, iv (3 : Int32), .val (.long (cp.toInt64)), .second, iv (2 : Int32), rv b173, rv b_259] [(.int (1 : Int32))])) _
        refine XS.ifNo X272.here hx rfl (hb hby at_166) rfl ((if0 _ _).trans (feq (by decide : ¬ ((1 : Int32) = (0 : Int32)))).1) ?_
        refine XS.iload X272.here hx rfl (hb hby at_169) rfl ?_
        show Steps p.tables e below (T272.setTop (mkF m 171 #[iv p0_0, iv p0_1, iv p0_2, iv p0_3, iv p0_4, iv p0_5, iv (3 : Int32), .val (.long (cp.toInt64)), .second, iv (2 : Int32), rv b173, rv b_259] [(.int (3 : Int32))])) _
        refine XS.iconst X272.here hx rfl (hb hby at_171) ?_
        refine XS.icmpYes X272.here hx rfl (pc0 := 172) (pc' := 187) rfl (hb hby at_172) rfl (tlt (by decide : (3 : Int32) < (4 : Int32))).1 (by decide) (by decide) ?_
        refine XS.iconst X272.here hx rfl (hb hby at_187) ?_
        refine XS.goto X272.here hx rfl (pc0 := 188) (pc' := 192) rfl (hb hby at_188) (by decide) (by decide) ?_
        show Steps p.tables e below (T272.setTop (mkF m 192 #[iv p0_0, iv p0_1, iv p0_2, iv p0_3, iv p0_4, iv p0_5, iv (3 : Int32), .val (.long (cp.toInt64)), .second, iv (2 : Int32), rv b173, rv b_259] [(.int (1 : Int32))])) _
        exact retN X272 hx (t := .boolean) Bd.returns (by simp) (hb hby at_192) hr
      · show Q_rm0 Z _ _ _ _ _ _ h0 n0 _ T272.heap _
        rw [K272q]
        exact ⟨rfl, N273, (K263)⟩
    · skip
      have f276 := (Nat.le_trans f200 K199q.1)
      have f277 := (f198.keep K199q)
      obtain ⟨cq275, kq275, q275a, q275b, q275c⟩ := isOf hZ rfl f277
      obtain ⟨_, _, ⟨T275, L275, k275, n275⟩, -, X275, ⟨Lc275, hQ275, l275, y275, z275⟩, st275⟩ := X199.virtualBack hx (y := MN9) (z := MN9) hown (mvT hZ wo43) (mvT hZ wo44) (notFace_of_selects (args := #[]) (mvT hZ wo46)) (mvT hZ wo46) (mvT hZ wo45) (by decide) (backOf (W := 0) (rm_in3_3 l Z a0 hw [] b173 ar2_199 ln2_199 (nar .byte (p0_0.toInt8.toInt32)) (nar .byte (p0_1.toInt8.toInt32)) (nar .byte (p0_2.toInt8.toInt32)) (T199.heap) n0 f276 hq199_1 hq199_2 hq199_3 hq199_4 hq199_5 (hq199_6 : (3 : Int32).toInt ≤ ln2_199.toInt)) hZ wo47 wo3 (by decide) (by decide)) q275a q275c (g := (mkF m 95 #[iv p0_0, iv p0_1, iv p0_2, iv p0_3, iv p0_4, iv p0_5, iv (3 : Int32), .val (.long (cp.toInt64)), .second, iv (3 : Int32), rv b173, .unset] [(.int (3 : Int32)), (.ref b173)])) rfl (by rw [hml]; rfl) (Steps.refl _) (argsL := [(.int (3 : Int32))]) (rest := []) (lenOf pd_2 rfl) rfl (by show 2 * 0 + _ ≤ _; exact Nat.le_of_eq rfl) (hb hby at_95) (fun _ _ => ⟨rfl, rfl, (by decide : 5 + 0 ≤ _), (by decide : 16 + 0 ≤ _)⟩)
      dsimp only [Pt.U, Pt.locs, Pt.cells, Pt.slots] at X275 l275 y275 z275 st275 hQ275
      rw [l275, y275, z275] at X275
      obtain ⟨rfl, N275q, K275q, hq275_0⟩ := hQ275
      have N278 := Fr.app N201 N275q
      have K279 : Keep h0 T275.heap [] := (K202).trans K275q (allS (P := fun x => x ∈ [] ∨ h0.size ≤ x) (Or.inr bz203) all0)
      have f280 := (hq199_3.keep K275q (ninS hq199_2 nin0))
      have f281 := (hq199_4.keep K275q (ninS hq199_2 nin0))
      have f283 := (Nat.le_trans f276 K275q.1)
      have f284 := (f277.keep K275q)
      obtain ⟨cq282, kq282, q282a, q282b, q282c⟩ := isOf hZ rfl f284
      obtain ⟨_, _, ⟨T282, L282, k282, n282⟩, -, X282, ⟨Lc282, hQ282, l282, y282, z282⟩, st282⟩ := X275.virtualBack hx (y := MN10) (z := MN10) hown (mvT hZ wo48) (mvT hZ wo49) (notFace_of_selects (args := #[]) (mvT hZ wo51)) (mvT hZ wo51) (mvT hZ wo50) (by decide) (backOf (W := 0) (rm_tb3 l Z a0 hw [] b173 ar2_199 ln2_199 (nar .byte (p0_0.toInt8.toInt32)) (nar .byte (p0_1.toInt8.toInt32)) (nar .byte (p0_2.toInt8.toInt32)) (T275.heap) n0 f283 f280 f281 hq275_0 (hq199_6 : (3 : Int32).toInt ≤ ln2_199.toInt)) hZ wo52 wo3 (by decide) (by decide)) q282a q282c (g := (mkF m 100 #[iv p0_0, iv p0_1, iv p0_2, iv p0_3, iv p0_4, iv p0_5, iv (3 : Int32), .val (.long (cp.toInt64)), .second, iv (3 : Int32), rv b173, .unset] [(.ref b173)])) rfl (by rw [hml]; rfl) (Steps.refl _) (argsL := []) (rest := []) (lenOf pd_1 rfl) rfl (by show 2 * 0 + _ ≤ _; exact Nat.le_of_eq rfl) (hb hby at_100) (fun _ _ => ⟨rfl, rfl, (by decide : 5 + 1 ≤ _), (by decide : 16 + 3 ≤ _)⟩)
      dsimp only [Pt.U, Pt.locs, Pt.cells, Pt.slots] at X282 l282 y282 z282 st282 hQ282
      rw [l282, y282, z282] at X282
      obtain ⟨b_282, rfl, N282q, K282q, hq282_0⟩ := hQ282
      have N285 := Fr.app N278 N282q
      have K286 : Keep h0 T282.heap [] := (K279).trans K282q all0
      obtain ⟨kk287, cl287, Ar287, qq287, Sz287, Nn287, Hs287, Gf287⟩ := id hq282_0
      have f289 := (Nat.le_trans f283 K282q.1)
      obtain ⟨_, _, ⟨T288, L288, k288, n288⟩, -, X288, ⟨Lc288, hQ288, l288, y288, z288⟩, st288⟩ := Jvm.LawKit.callS X282 hx (y := MN11) hown (mvT hZ wo53) (mvT hZ wo54) (mvT hZ wo55) (mvT hZ wo56) (by decide) (backOf (W := 0) (rm_ok3_0 l Z a0 hw [] b_282 p0_0 (3 : Int32) (nar .byte (p0_0.toInt8.toInt32)) (nar .byte (p0_1.toInt8.toInt32)) (nar .byte (p0_2.toInt8.toInt32)) (T282.heap) n0 f289 hq282_0) hZ wo56 wo55 (by decide) (by decide)) (g := (mkF m 127 #[iv p0_0, iv p0_1, iv p0_2, iv p0_3, iv p0_4, iv p0_5, iv (3 : Int32), .val (.long (cp.toInt64)), .second, iv (3 : Int32), rv b173, rv b_282] [(.int (3 : Int32)), (.int p0_0), (.int (0 : Int32)), (.ref b_282)])) rfl (by rw [hml]; rfl) (argsL := [(.ref b_282), (.int (0 : Int32)), (.int p0_0), (.int (3 : Int32))]) (rest := []) (lenOf pd_8 rfl) rfl (by show 2 * 0 + _ ≤ _; exact Nat.le_of_eq rfl) (hb hby at_127) (fun _ _ => ⟨rfl, rfl, (by decide : 6 + 0 ≤ _), (by decide : 19 + 0 ≤ _)⟩)
      dsimp only [Pt.U, Pt.locs, Pt.cells, Pt.slots] at X288 l288 y288 z288 st288 hQ288
      rw [l288, y288, z288] at X288
      obtain ⟨rfl, N288q, K288q⟩ := hQ288
      have N290 := Fr.app N285 N288q
      have q291 : (if ((nar .byte (p0_0.toInt8.toInt32)) &&& (255 : Int32)) = (if (0 : Int32) < (3 : Int32) then (p0_0 &&& (255 : Int32)) else ((255 : Int32) - (p0_0 &&& (255 : Int32)))) then (1 : Int32) else (0 : Int32)) = (1 : Int32) := if_pos ((own_k1 _).trans (if_pos (by decide)).symm)
      obtain ⟨_, _, ⟨T292, L292, k292, n292⟩, -, X292, ⟨Lc292, hQ292, l292, y292, z292⟩, st292⟩ := Jvm.LawKit.callS X288 hx (y := MN11) hown (mvT hZ wo53) (mvT hZ wo54) (mvT hZ wo55) (mvT hZ wo56) (by decide) (backOf (W := 0) (rm_ok3_1 l Z a0 hw [] b_282 p0_1 (3 : Int32) (nar .byte (p0_0.toInt8.toInt32)) (nar .byte (p0_1.toInt8.toInt32)) (nar .byte (p0_2.toInt8.toInt32)) (T282.heap) n0 f289 hq282_0) hZ wo56 wo55 (by decide) (by decide)) (g := (mkF m 145 #[iv p0_0, iv p0_1, iv p0_2, iv p0_3, iv p0_4, iv p0_5, iv (3 : Int32), .val (.long (cp.toInt64)), .second, iv (3 : Int32), rv b173, rv b_282] [(.int (3 : Int32)), (.int p0_1), (.int (1 : Int32)), (.ref b_282)])) rfl (by rw [hml]; rfl) (argsL := [(.ref b_282), (.int (1 : Int32)), (.int p0_1), (.int (3 : Int32))]) (rest := []) (lenOf pd_8 rfl) rfl (by show 2 * 0 + _ ≤ _; exact Nat.le_of_eq rfl) (hb hby at_145) (fun _ _ => ⟨rfl, K288q, (by decide : 6 + 0 ≤ _), (by decide : 19 + 0 ≤ _)⟩)
      dsimp only [Pt.U, Pt.locs, Pt.cells, Pt.slots] at X292 l292 y292 z292 st292 hQ292
      rw [l292, y292, z292] at X292
      obtain ⟨rfl, N292q, K292q⟩ := hQ292
      have N293 := Fr.app N290 N292q
      have q294 : (if ((nar .byte (p0_1.toInt8.toInt32)) &&& (255 : Int32)) = (if (1 : Int32) < (3 : Int32) then (p0_1 &&& (255 : Int32)) else ((255 : Int32) - (p0_1 &&& (255 : Int32)))) then (1 : Int32) else (0 : Int32)) = (1 : Int32) := if_pos ((own_k1 _).trans (if_pos (by decide)).symm)
      obtain ⟨_, _, ⟨T295, L295, k295, n295⟩, -, X295, ⟨Lc295, hQ295, l295, y295, z295⟩, st295⟩ := Jvm.LawKit.callS X292 hx (y := MN11) hown (mvT hZ wo53) (mvT hZ wo54) (mvT hZ wo55) (mvT hZ wo56) (by decide) (backOf (W := 0) (rm_ok3_2 l Z a0 hw [] b_282 p0_2 (3 : Int32) (nar .byte (p0_0.toInt8.toInt32)) (nar .byte (p0_1.toInt8.toInt32)) (nar .byte (p0_2.toInt8.toInt32)) (T282.heap) n0 f289 hq282_0) hZ wo56 wo55 (by decide) (by decide)) (g := (mkF m 163 #[iv p0_0, iv p0_1, iv p0_2, iv p0_3, iv p0_4, iv p0_5, iv (3 : Int32), .val (.long (cp.toInt64)), .second, iv (3 : Int32), rv b173, rv b_282] [(.int (3 : Int32)), (.int p0_2), (.int (2 : Int32)), (.ref b_282)])) rfl (by rw [hml]; rfl) (argsL := [(.ref b_282), (.int (2 : Int32)), (.int p0_2), (.int (3 : Int32))]) (rest := []) (lenOf pd_8 rfl) rfl (by show 2 * 0 + _ ≤ _; exact Nat.le_of_eq rfl) (hb hby at_163) (fun _ _ => ⟨rfl, K292q, (by decide : 6 + 0 ≤ _), (by decide : 19 + 0 ≤ _)⟩)
      dsimp only [Pt.U, Pt.locs, Pt.cells, Pt.slots] at X295 l295 y295 z295 st295 hQ295
      rw [l295, y295, z295] at X295
      obtain ⟨rfl, N295q, K295q⟩ := hQ295
      have N296 := Fr.app N293 N295q
      have q297 : (if ((nar .byte (p0_2.toInt8.toInt32)) &&& (255 : Int32)) = (if (2 : Int32) < (3 : Int32) then (p0_2 &&& (255 : Int32)) else ((255 : Int32) - (p0_2 &&& (255 : Int32)))) then (1 : Int32) else (0 : Int32)) = (1 : Int32) := if_pos ((own_k1 _).trans (if_pos (by decide)).symm)
      obtain ⟨fs, hr, hrun, hended, hW, hsame⟩ := X295.leave (v := some (.int (1 : Int32))) (fun h => by rw [Bd.returns] at h; cases h)
      refine ⟨_, _, pre204 _ ?_, hrun, hended, _, _, rfl, ?_, ⟨_, rfl⟩, hW, hsame.mono (by decide) (by decide)⟩
      · show Steps p.tables e below (T199.setTop (mkF m 93 #[iv p0_0, iv p0_1, iv p0_2, iv p0_3, iv p0_4, iv p0_5, iv (3 : Int32), .val (.long (cp.toInt64)), .second, iv (3 : Int32), rv b173, .unset] [(.ref b173)])) _
        refine XS.iload X199.here hx rfl (hb hby at_93) rfl ?_
        show Steps p.tables e below (T199.setTop (mkF m 95 #[iv p0_0, iv p0_1, iv p0_2, iv p0_3, iv p0_4, iv p0_5, iv (3 : Int32), .val (.long (cp.toInt64)), .second, iv (3 : Int32), rv b173, .unset] [(.int (3 : Int32)), (.ref b173)])) _
        refine st275.trans ?_
        show Steps p.tables e below (T275.setTop (mkF m 98 #[iv p0_0, iv p0_1, iv p0_2, iv p0_3, iv p0_4, iv p0_5, iv (3 : Int32), .val (.long (cp.toInt64)), .second, iv (3 : Int32), rv b173, .unset] [])) _
        refine XS.aload X275.here hx rfl (hb hby at_98) rfl rfl ?_
        show Steps p.tables e below (T275.setTop (mkF m 100 #[iv p0_0, iv p0_1, iv p0_2, iv p0_3, iv p0_4, iv p0_5, iv (3 : Int32), .val (.long (cp.toInt64)), .second, iv (3 : Int32), rv b173, .unset] [(.ref b173)])) _
        refine st282.trans ?_
        show Steps p.tables e below (T282.setTop (mkF m 103 #[iv p0_0, iv p0_1, iv p0_2, iv p0_3, iv p0_4, iv p0_5, iv (3 : Int32), .val (.long (cp.toInt64)), .second, iv (3 : Int32), rv b173, .unset] [(.ref b_282)])) _
        refine XS.astore X282.here hx rfl (hb hby at_103) rfl rfl (l' := #[iv p0_0, iv p0_1, iv p0_2, iv p0_3, iv p0_4, iv p0_5, iv (3 : Int32), .val (.long (cp.toInt64)), .second, iv (3 : Int32), rv b173, rv b_282]) rfl ?_
        refine XS.aload X282.here hx rfl (hb hby at_105) rfl rfl ?_
        show Steps p.tables e below (T282.setTop (mkF m 107 #[iv p0_0, iv p0_1, iv p0_2, iv p0_3, iv p0_4, iv p0_5, iv (3 : Int32), .val (.long (cp.toInt64)), .second, iv (3 : Int32), rv b173, rv b_282] [(.ref b_282)])) _
        refine X282.arraylength hx (Ar287.1) (State.isArrayOf_alike hZ.alike Ar287.2.1) (g := (mkF m 107 #[iv p0_0, iv p0_1, iv p0_2, iv p0_3, iv p0_4, iv p0_5, iv (3 : Int32), .val (.long (cp.toInt64)), .second, iv (3 : Int32), rv b173, rv b_282] [(.ref b_282)])) rfl rfl (hb hby at_107) _ ?_
        rw [len_of Sz287 Nn287]
        show Steps p.tables e below (T282.setTop (mkF m 108 #[iv p0_0, iv p0_1, iv p0_2, iv p0_3, iv p0_4, iv p0_5, iv (3 : Int32), .val (.long (cp.toInt64)), .second, iv (3 : Int32), rv b173, rv b_282] [(.int (3 : Int32))])) _
        refine XS.iload X282.here hx rfl (hb hby at_108) rfl ?_
        show Steps p.tables e below (T282.setTop (mkF m 110 #[iv p0_0, iv p0_1, iv p0_2, iv p0_3, iv p0_4, iv p0_5, iv (3 : Int32), .val (.long (cp.toInt64)), .second, iv (3 : Int32), rv b173, rv b_282] [(.int (3 : Int32)), (.int (3 : Int32))])) _
        refine XS.icmpYes X282.here hx rfl (pc0 := 110) (pc' := 115) rfl (hb hby at_110) rfl (teq (by decide : (3 : Int32) = (3 : Int32))).1 (by decide) (by decide) ?_
        refine XS.iload X282.here hx rfl (hb hby at_115) rfl ?_
        refine XS.iconst X282.here hx rfl (hb hby at_117) ?_
        refine XS.icmpNo X282.here hx rfl (hb hby at_118) rfl (flt (by decide : ¬ ((3 : Int32) < (1 : Int32)))).1 ?_
        show Steps p.tables e below (T282.setTop (mkF m 121 #[iv p0_0, iv p0_1, iv p0_2, iv p0_3, iv p0_4, iv p0_5, iv (3 : Int32), .val (.long (cp.toInt64)), .second, iv (3 : Int32), rv b173, rv b_282] [])) _
        refine XS.aload X282.here hx rfl (hb hby at_121) rfl rfl ?_
        refine XS.iconst X282.here hx rfl (hb hby at_123) ?_
        refine XS.iloadN X282.here hx rfl (hb hby at_124) rfl ?_
        refine XS.iload X282.here hx rfl (hb hby at_125) rfl ?_
        show Steps p.tables e below (T282.setTop (mkF m 127 #[iv p0_0, iv p0_1, iv p0_2, iv p0_3, iv p0_4, iv p0_5, iv (3 : Int32), .val (.long (cp.toInt64)), .second, iv (3 : Int32), rv b173, rv b_282] [(.int (3 : Int32)), (.int p0_0), (.int (0 : Int32)), (.ref b_282)])) _
        refine st288 _ ?_
        show Steps p.tables e below (T288.setTop (mkF m 130 #[iv p0_0, iv p0_1, iv p0_2, iv p0_3, iv p0_4, iv p0_5, iv (3 : Int32), .val (.long (cp.toInt64)), .second, iv (3 : Int32), rv b173, rv b_282] [(.int (if ((nar .byte (p0_0.toInt8.toInt32)) &&& (255 : Int32)) = (if (0 : Int32) < (3 : Int32) then (p0_0 &&& (255 : Int32)) else ((255 : Int32) - (p0_0 &&& (255 : Int32)))) then (1 : Int32) else (0 : Int32)))])) _
        rw [q291]
        show Steps p.tables e below (T288.setTop (mkF m 130 #[iv p0_0, iv p0_1, iv p0_2, iv p0_3, iv p0_4, iv p0_5, iv (3 : Int32), .val (.long (cp.toInt64)), .second, iv (3 : Int32), rv b173, rv b_282] [(.int (1 : Int32))])) _
        show Steps p.tables e below (T288.setTop (mkF m 130 #[iv p0_0, iv p0_1, iv p0_2, iv p0_3, iv p0_4, iv p0_5, iv (3 : Int32), .val (.long (cp.toInt64)), .second, iv (3 : Int32), rv b173, rv b_282] [(.int (1 : Int32))])) _
        refine XS.ifNo X288.here hx rfl (hb hby at_130) rfl ((if0 _ _).trans (feq (by decide : ¬ ((1 : Int32) = (0 : Int32)))).1) ?_
        show Steps p.tables e below (T288.setTop (mkF m 133 #[iv p0_0, iv p0_1, iv p0_2, iv p0_3, iv p0_4, iv p0_5, iv (3 : Int32), .val (.long (cp.toInt64)), .second, iv (3 : Int32), rv b173, rv b_282] [])) _
        refine XS.iload X288.here hx rfl (hb hby at_133) rfl ?_
        refine XS.iconst X288.here hx rfl (hb hby at_135) ?_
        refine XS.icmpNo X288.here hx rfl (hb hby at_136) rfl (flt (by decide : ¬ ((3 : Int32) < (2 : Int32)))).1 ?_
        refine XS.aload X288.here hx rfl (hb hby at_139) rfl rfl ?_
        show Steps p.tables e below (T288.setTop (mkF m 141 #[iv p0_0, iv p0_1, iv p0_2, iv p0_3, iv p0_4, iv p0_5, iv (3 : Int32), .val (.long (cp.toInt64)), .second, iv (3 : Int32), rv b173, rv b_282] [(.ref b_282)])) _
        refine XS.iconst X288.here hx rfl (hb hby at_141) ?_
        refine XS.iloadN X288.here hx rfl (hb hby at_142) rfl ?_
        refine XS.iload X288.here hx rfl (hb hby at_143) rfl ?_
        show Steps p.tables e below (T288.setTop (mkF m 145 #[iv p0_0, iv p0_1, iv p0_2, iv p0_3, iv p0_4, iv p0_5, iv (3 : Int32), .val (.long (cp.toInt64)), .second, iv (3 : Int32), rv b173, rv b_282] [(.int (3 : Int32)), (.int p0_1), (.int (1 : Int32)), (.ref b_282)])) _
        refine st292 _ ?_
        show Steps p.tables e below (T292.setTop (mkF m 148 #[iv p0_0, iv p0_1, iv p0_2, iv p0_3, iv p0_4, iv p0_5, iv (3 : Int32), .val (.long (cp.toInt64)), .second, iv (3 : Int32), rv b173, rv b_282] [(.int (if ((nar .byte (p0_1.toInt8.toInt32)) &&& (255 : Int32)) = (if (1 : Int32) < (3 : Int32) then (p0_1 &&& (255 : Int32)) else ((255 : Int32) - (p0_1 &&& (255 : Int32)))) then (1 : Int32) else (0 : Int32)))])) _
        rw [q294]
        show Steps p.tables e below (T292.setTop (mkF m 148 #[iv p0_0, iv p0_1, iv p0_2, iv p0_3, iv p0_4, iv p0_5, iv (3 : Int32), .val (.long (cp.toInt64)), .second, iv (3 : Int32), rv b173, rv b_282] [(.int (1 : Int32))])) _
        show Steps p.tables e below (T292.setTop (mkF m 148 #[iv p0_0, iv p0_1, iv p0_2, iv p0_3, iv p0_4, iv p0_5, iv (3 : Int32), .val (.long (cp.toInt64)), .second, iv (3 : Int32), rv b173, rv b_282] [(.int (1 : Int32))])) _
        refine XS.ifNo X292.here hx rfl (hb hby at_148) rfl ((if0 _ _).trans (feq (by decide : ¬ ((1 : Int32) = (0 : Int32)))).1) ?_
        refine XS.iload X292.here hx rfl (hb hby at_151) rfl ?_
        show Steps p.tables e below (T292.setTop (mkF m 153 #[iv p0_0, iv p0_1, iv p0_2, iv p0_3, iv p0_4, iv p0_5, iv (3 : Int32), .val (.long (cp.toInt64)), .second, iv (3 : Int32), rv b173, rv b_282] [(.int (3 : Int32))])) _
        refine XS.iconst X292.here hx rfl (hb hby at_153) ?_
        refine XS.icmpNo X292.here hx rfl (hb hby at_154) rfl (flt (by decide : ¬ ((3 : Int32) < (3 : Int32)))).1 ?_
        refine XS.aload X292.here hx rfl (hb hby at_157) rfl rfl ?_
        refine XS.iconst X292.here hx rfl (hb hby at_159) ?_
        show Steps p.tables e below (T292.setTop (mkF m 160 #[iv p0_0, iv p0_1, iv p0_2, iv p0_3, iv p0_4, iv p0_5, iv (3 : Int32), .val (.long (cp.toInt64)), .second, iv (3 : Int32), rv b173, rv b_282] [(.int (2 : Int32)), (.ref b_282)])) _
        refine XS.iloadN X292.here hx rfl (hb hby at_160) rfl ?_
        refine XS.iload X292.here hx rfl (hb hby at_161) rfl ?_
        show Steps p.tables e below (T292.setTop (mkF m 163 #[iv p0_0, iv p0_1, iv p0_2, iv p0_3, iv p0_4, iv p0_5, iv (3 : Int32), .val (.long (cp.toInt64)), .second, iv (3 : Int32), rv b173, rv b_282] [(.int (3 : Int32)), (.int p0_2), (.int (2 : Int32)), (.ref b_282)])) _
        refine st295 _ ?_
        show Steps p.tables e below (T295.setTop (mkF m 166 #[iv p0_0, iv p0_1, iv p0_2, iv p0_3, iv p0_4, iv p0_5, iv (3 : Int32), .val (.long (cp.toInt64)), .second, iv (3 : Int32), rv b173, rv b_282] [(.int (if ((nar .byte (p0_2.toInt8.toInt32)) &&& (255 : Int32)) = (if (2 : Int32) < (3 : Int32) then (p0_2 &&& (255 : Int32)) else ((255 : Int32) - (p0_2 &&& (255 : Int32)))) then (1 : Int32) else (0 : Int32)))])) _
        rw [q297]
        show Steps p.tables e below (T295.setTop (mkF m 166 #[iv p0_0, iv p0_1, iv p0_2, iv p0_3, iv p0_4, iv p0_5, iv (3 : Int32), .val (.long (cp.toInt64)), .second, iv (3 : Int32), rv b173, rv b_282] [(.int (1 : Int32))])) _
        show Steps p.tables e below (T295.setTop (mkF m 166 #[iv p0_0, iv p0_1, iv p0_2, iv p0_3, iv p0_4, iv p0_5, iv (3 : Int32), .val (.long (cp.toInt64)), .second, iv (3 : Int32), rv b173, rv b_282] [(.int (1 : Int32))])) _
        refine XS.ifNo X295.here hx rfl (hb hby at_166) rfl ((if0 _ _).trans (feq (by decide : ¬ ((1 : Int32) = (0 : Int32)))).1) ?_
        refine XS.iload X295.here hx rfl (hb hby at_169) rfl ?_
        refine XS.iconst X295.here hx rfl (hb hby at_171) ?_
        show Steps p.tables e below (T295.setTop (mkF m 172 #[iv p0_0, iv p0_1, iv p0_2, iv p0_3, iv p0_4, iv p0_5, iv (3 : Int32), .val (.long (cp.toInt64)), .second, iv (3 : Int32), rv b173, rv b_282] [(.int (4 : Int32)), (.int (3 : Int32))])) _
        refine XS.icmpYes X295.here hx rfl (pc0 := 172) (pc' := 187) rfl (hb hby at_172) rfl (tlt (by decide : (3 : Int32) < (4 : Int32))).1 (by decide) (by decide) ?_
        refine XS.iconst X295.here hx rfl (hb hby at_187) ?_
        refine XS.goto X295.here hx rfl (pc0 := 188) (pc' := 192) rfl (hb hby at_188) (by decide) (by decide) ?_
        show Steps p.tables e below (T295.setTop (mkF m 192 #[iv p0_0, iv p0_1, iv p0_2, iv p0_3, iv p0_4, iv p0_5, iv (3 : Int32), .val (.long (cp.toInt64)), .second, iv (3 : Int32), rv b173, rv b_282] [(.int (1 : Int32))])) _
        exact retN X295 hx (t := .boolean) Bd.returns (by simp) (hb hby at_192) hr
      · show Q_rm0 Z _ _ _ _ _ _ h0 n0 _ T295.heap _
        rw [K295q]
        exact ⟨rfl, N296, (K286)⟩
  · skip
    obtain ⟨cp, h_cp⟩ : ∃ z : Int32, z = (((p0_5.toUInt32 >>> ((8 : Int32) &&& 31).toUInt32).toInt32) &&& (7 : Int32)) := ⟨_, rfl⟩
    have hcp : 0 ≤ cp.toInt ∧ cp.toInt < 8 := by rw [h_cp]; exact own_cp _
    obtain ⟨T298, h298, X298, e298, E298, A298, D298, -, st298⟩ := newO X0 hx hZ hown wo1 wo2 wo3 e0 (g := (mkF m 32 #[iv p0_0, iv p0_1, iv p0_2, iv p0_3, iv p0_4, iv p0_5, iv (4 : Int32), .val (.long (cp.toInt64)), .second, iv ((p0_4 &&& (2147483647 : Int32)) % (5 : Int32)), .unset, .unset] [])) rfl (hb hby at_32) (by decide) (by decide)
    obtain ⟨b298, gg298⟩ : ∃ z, z = h0.size := ⟨_, rfl⟩
    rw [← gg298] at A298 D298 st298
    have g299 : n0 ≤ b298 := Nat.le_trans Z0 (Nat.le_of_eq gg298.symm)
    have bz300 : h0.size ≤ b298 := Nat.le_trans (Keep.refl h0 []).1 (Nat.le_of_eq gg298.symm)
    have K301 : Keep h0 h298 [] := (Keep.refl h0 []).ext E298
    have f302 : Fld Z h298 b298 "com/example/dido/dido/keys/KeyWriter" "bytes" "[B" .null := D298 (Or.inl wo17) (ty := (.array .byte)) (by decide)
    have f303 : Fld Z h298 b298 "com/example/dido/dido/keys/KeyWriter" "size" "I" (.int (0 : Int32)) := D298 (Or.inl wo28) (ty := .int) (by decide)
    have f305 := (Nat.le_trans Z0 E298.1)
    obtain ⟨_, _, ⟨T304, L304, k304, n304⟩, -, X304, ⟨Lc304, hQ304, l304, y304, z304⟩, st304⟩ := X298.specialBack hx (y := MN1) rfl hown (mvT hZ wo4) (mvT hZ wo5) (mvT hZ wo6) (by decide) (backOf (W := 1) (rm1 l Z a0 hw [] b298 cp h298 n0 f305 A298 g299 f302 f303 (hcp : 0 ≤ cp.toInt ∧ cp.toInt < 8)) hZ wo6 wo3 (by decide) (by decide)) (g := (mkF m 38 #[iv p0_0, iv p0_1, iv p0_2, iv p0_3, iv p0_4, iv p0_5, iv (4 : Int32), .val (.long (cp.toInt64)), .second, iv ((p0_4 &&& (2147483647 : Int32)) % (5 : Int32)), .unset, .unset] [(.long (cp.toInt64)), (.ref b298), (.ref b298)])) rfl (by rw [hml]; rfl) (Steps.refl _) (a := b298) (argsL := [(.long (cp.toInt64))]) (rest := [(.ref b298)]) (lenOf pd_4 rfl) rfl (by show 2 * 0 + _ ≤ _; exact Nat.le_of_eq rfl) (hb hby at_38) (fun _ _ => ⟨rfl, e298, (by decide : 1 + 1 ≤ _), (by decide : 2 + 7 ≤ _)⟩)
    dsimp only [Pt.U, Pt.locs, Pt.cells, Pt.slots] at X304 l304 y304 z304 st304 hQ304
    rw [l304, y304, z304] at X304
    obtain ⟨ar_304, rfl, N304q, K304q, hq304_0, hq304_1, hq304_2, hq304_3⟩ := hQ304
    have N306 := Fr.app N0 N304q
    have ne307 : b298 ≠ ar_304 := Nat.ne_of_lt (Nat.lt_of_lt_of_le A298.lt hq304_0)
    have g308 : n0 ≤ ar_304 := Nat.le_trans f305 hq304_0
    have bz309 : h0.size ≤ ar_304 := Nat.le_trans (K301).1 hq304_0
    have K310 : Keep h0 T304.heap [] := (K301).trans K304q (allS (P := fun x => x ∈ [] ∨ h0.size ≤ x) (Or.inr bz300) all0)
    have f311 := (A298.keep K304q)
    have f313 := (Nat.le_trans f305 K304q.1)
    obtain ⟨cq312, kq312, q312a, q312b, q312c⟩ := isOf hZ rfl f311
    obtain ⟨_, _, ⟨T312, L312, k312, n312⟩, -, X312, ⟨Lc312, hQ312, l312, y312, z312⟩, st312⟩ := X304.virtualBack hx (y := MN4) (z := MN4) hown (mvT hZ wo18) (mvT hZ wo19) (notFace_of_selects (args := #[]) (mvT hZ wo21)) (mvT hZ wo21) (mvT hZ wo20) (by decide) (backOf (W := 0) (rm_wr0 l Z a0 hw [] b298 p0_0 ar_304 cp (T304.heap) n0 f313 f311 g299 g308 ne307 hq304_2 hq304_3 hq304_1 (hcp.1 : (0 : Int32).toInt ≤ cp.toInt) ((Int.lt_trans hcp.2 (by decide)) : cp.toInt < 9)) hZ wo22 wo3 (by decide) (by decide)) q312a q312c (g := (mkF m 52 #[iv p0_0, iv p0_1, iv p0_2, iv p0_3, iv p0_4, iv p0_5, iv (4 : Int32), .val (.long (cp.toInt64)), .second, iv ((p0_4 &&& (2147483647 : Int32)) % (5 : Int32)), rv b298, .unset] [(.int p0_0), (.ref b298)])) rfl (by rw [hml]; rfl) (Steps.refl _) (argsL := [(.int p0_0)]) (rest := []) (lenOf pd_2 rfl) rfl (by show 2 * 0 + _ ≤ _; exact Nat.le_of_eq rfl) (hb hby at_52) (fun _ _ => ⟨rfl, rfl, (by decide : 2 + 1 ≤ _), (by decide : 9 + 1 ≤ _)⟩)
    dsimp only [Pt.U, Pt.locs, Pt.cells, Pt.slots] at X312 l312 y312 z312 st312 hQ312
    rw [l312, y312, z312] at X312
    obtain ⟨ar2_312, ln2_312, rfl, N312q, K312q, hq312_0, hq312_1, hq312_2, hq312_3, hq312_4, hq312_5, hq312_6, hq312_7⟩ := hQ312
    have N314 := Fr.app N306 N312q
    have K315 : Keep h0 T312.heap [] := (K310).trans K312q (allS (P := fun x => x ∈ [] ∨ h0.size ≤ x) (Or.inr bz300) (allS (P := fun x => x ∈ [] ∨ h0.size ≤ x) (Or.inr bz309) all0))
    have bz316 : h0.size ≤ ar2_312 := hq312_0.elim (fun q => q ▸ bz309) (fun q => Nat.le_trans (K310).1 q)
    have f317 := (f311.keep K312q)
    have f319 := (Nat.le_trans f313 K312q.1)
    obtain ⟨cq318, kq318, q318a, q318b, q318c⟩ := isOf hZ rfl f317
    obtain ⟨_, _, ⟨T318, L318, k318, n318⟩, -, X318, ⟨Lc318, hQ318, l318, y318, z318⟩, st318⟩ := X312.virtualBack hx (y := MN4) (z := MN4) hown (mvT hZ wo18) (mvT hZ wo19) (notFace_of_selects (args := #[]) (mvT hZ wo21)) (mvT hZ wo21) (mvT hZ wo20) (by decide) (backOf (W := 0) (rm_wr1 l Z a0 hw [] b298 p0_1 ar2_312 ln2_312 (nar .byte (p0_0.toInt8.toInt32)) (T312.heap) n0 f319 f317 g299 hq312_1 hq312_2 hq312_3 hq312_4 hq312_5 (hq312_6 : (1 : Int32).toInt ≤ ln2_312.toInt) (hq312_7 : ln2_312.toInt < 9)) hZ wo22 wo3 (by decide) (by decide)) q318a q318c (g := (mkF m 64 #[iv p0_0, iv p0_1, iv p0_2, iv p0_3, iv p0_4, iv p0_5, iv (4 : Int32), .val (.long (cp.toInt64)), .second, iv ((p0_4 &&& (2147483647 : Int32)) % (5 : Int32)), rv b298, .unset] [(.int p0_1), (.ref b298)])) rfl (by rw [hml]; rfl) (Steps.refl _) (argsL := [(.int p0_1)]) (rest := []) (lenOf pd_2 rfl) rfl (by show 2 * 0 + _ ≤ _; exact Nat.le_of_eq rfl) (hb hby at_64) (fun _ _ => ⟨rfl, rfl, (by decide : 3 + 1 ≤ _), (by decide : 10 + 2 ≤ _)⟩)
    dsimp only [Pt.U, Pt.locs, Pt.cells, Pt.slots] at X318 l318 y318 z318 st318 hQ318
    rw [l318, y318, z318] at X318
    obtain ⟨ar2_318, ln2_318, rfl, N318q, K318q, hq318_0, hq318_1, hq318_2, hq318_3, hq318_4, hq318_5, hq318_6, hq318_7⟩ := hQ318
    have N320 := Fr.app N314 N318q
    have K321 : Keep h0 T318.heap [] := (K315).trans K318q (allS (P := fun x => x ∈ [] ∨ h0.size ≤ x) (Or.inr bz300) (allS (P := fun x => x ∈ [] ∨ h0.size ≤ x) (Or.inr bz316) all0))
    have bz322 : h0.size ≤ ar2_318 := hq318_0.elim (fun q => q ▸ bz316) (fun q => Nat.le_trans (K315).1 q)
    have f323 := (f317.keep K318q)
    have f325 := (Nat.le_trans f319 K318q.1)
    obtain ⟨cq324, kq324, q324a, q324b, q324c⟩ := isOf hZ rfl f323
    obtain ⟨_, _, ⟨T324, L324, k324, n324⟩, -, X324, ⟨Lc324, hQ324, l324, y324, z324⟩, st324⟩ := X318.virtualBack hx (y := MN4) (z := MN4) hown (mvT hZ wo18) (mvT hZ wo19) (notFace_of_selects (args := #[]) (mvT hZ wo21)) (mvT hZ wo21) (mvT hZ wo20) (by decide) (backOf (W := 0) (rm_wr2 l Z a0 hw [] b298 p0_2 ar2_318 ln2_318 (nar .byte (p0_0.toInt8.toInt32)) (nar .byte (p0_1.toInt8.toInt32)) (T318.heap) n0 f325 f323 g299 hq318_1 hq318_2 hq318_3 hq318_4 hq318_5 (hq318_6 : (2 : Int32).toInt ≤ ln2_318.toInt) (hq318_7 : ln2_318.toInt < 9)) hZ wo22 wo3 (by decide) (by decide)) q324a q324c (g := (mkF m 76 #[iv p0_0, iv p0_1, iv p0_2, iv p0_3, iv p0_4, iv p0_5, iv (4 : Int32), .val (.long (cp.toInt64)), .second, iv ((p0_4 &&& (2147483647 : Int32)) % (5 : Int32)), rv b298, .unset] [(.int p0_2), (.ref b298)])) rfl (by rw [hml]; rfl) (Steps.refl _) (argsL := [(.int p0_2)]) (rest := []) (lenOf pd_2 rfl) rfl (by show 2 * 0 + _ ≤ _; exact Nat.le_of_eq rfl) (hb hby at_76) (fun _ _ => ⟨rfl, rfl, (by decide : 4 + 1 ≤ _), (by decide : 12 + 4 ≤ _)⟩)
    dsimp only [Pt.U, Pt.locs, Pt.cells, Pt.slots] at X324 l324 y324 z324 st324 hQ324
    rw [l324, y324, z324] at X324
    obtain ⟨ar2_324, ln2_324, rfl, N324q, K324q, hq324_0, hq324_1, hq324_2, hq324_3, hq324_4, hq324_5, hq324_6, hq324_7⟩ := hQ324
    have N326 := Fr.app N320 N324q
    have K327 : Keep h0 T324.heap [] := (K321).trans K324q (allS (P := fun x => x ∈ [] ∨ h0.size ≤ x) (Or.inr bz300) (allS (P := fun x => x ∈ [] ∨ h0.size ≤ x) (Or.inr bz322) all0))
    have bz328 : h0.size ≤ ar2_324 := hq324_0.elim (fun q => q ▸ bz322) (fun q => Nat.le_trans (K321).1 q)
    have f329 := (f323.keep K324q)
    have f331 := (Nat.le_trans f325 K324q.1)
    obtain ⟨cq330, kq330, q330a, q330b, q330c⟩ := isOf hZ rfl f329
    obtain ⟨_, _, ⟨T330, L330, k330, n330⟩, -, X330, ⟨Lc330, hQ330, l330, y330, z330⟩, st330⟩ := X324.virtualBack hx (y := MN4) (z := MN4) hown (mvT hZ wo18) (mvT hZ wo19) (notFace_of_selects (args := #[]) (mvT hZ wo21)) (mvT hZ wo21) (mvT hZ wo20) (by decide) (backOf (W := 0) (rm_wr3 l Z a0 hw [] b298 p0_3 ar2_324 ln2_324 (nar .byte (p0_0.toInt8.toInt32)) (nar .byte (p0_1.toInt8.toInt32)) (nar .byte (p0_2.toInt8.toInt32)) (T324.heap) n0 f331 f329 g299 hq324_1 hq324_2 hq324_3 hq324_4 hq324_5 (hq324_6 : (3 : Int32).toInt ≤ ln2_324.toInt) (hq324_7 : ln2_324.toInt < 9)) hZ wo22 wo3 (by decide) (by decide)) q330a q330c (g := (mkF m 88 #[iv p0_0, iv p0_1, iv p0_2, iv p0_3, iv p0_4, iv p0_5, iv (4 : Int32), .val (.long (cp.toInt64)), .second, iv ((p0_4 &&& (2147483647 : Int32)) % (5 : Int32)), rv b298, .unset] [(.int p0_3), (.ref b298)])) rfl (by rw [hml]; rfl) (Steps.refl _) (argsL := [(.int p0_3)]) (rest := []) (lenOf pd_2 rfl) rfl (by show 2 * 0 + _ ≤ _; exact Nat.le_of_eq rfl) (hb hby at_88) (fun _ _ => ⟨rfl, rfl, (by decide : 5 + 1 ≤ _), (by decide : 16 + 6 ≤ _)⟩)
    dsimp only [Pt.U, Pt.locs, Pt.cells, Pt.slots] at X330 l330 y330 z330 st330 hQ330
    rw [l330, y330, z330] at X330
    obtain ⟨ar2_330, ln2_330, rfl, N330q, K330q, hq330_0, hq330_1, hq330_2, hq330_3, hq330_4, hq330_5, hq330_6, hq330_7⟩ := hQ330
    have N332 := Fr.app N326 N330q
    have K333 : Keep h0 T330.heap [] := (K327).trans K330q (allS (P := fun x => x ∈ [] ∨ h0.size ≤ x) (Or.inr bz300) (allS (P := fun x => x ∈ [] ∨ h0.size ≤ x) (Or.inr bz328) all0))
    have bz334 : h0.size ≤ ar2_330 := hq330_0.elim (fun q => q ▸ bz328) (fun q => Nat.le_trans (K327).1 q)
    obtain ⟨fr, h_fr⟩ : ∃ z : Int32, z = ((p0_4 &&& (2147483647 : Int32)) % (5 : Int32)) := ⟨_, rfl⟩
    have hfr : 0 ≤ fr.toInt ∧ fr.toInt < 5 := by rw [h_fr]; exact own_mod _ 5 (by decide)
    have pre335 : ∀ t, Steps p.tables e below (T330.setTop (mkF m 93 #[iv p0_0, iv p0_1, iv p0_2, iv p0_3, iv p0_4, iv p0_5, iv (4 : Int32), .val (.long (cp.toInt64)), .second, iv fr, rv b298, .unset] [(.ref b298)])) t → Steps p.tables e below (s₁.setTop (entryFrame m #[(.int p0_0), (.int p0_1), (.int p0_2), (.int p0_3), (.int p0_4), (.int p0_5)] maxLocals)) t := by
      intro t_ k_
      refine pre1 _ ?_
      show Steps p.tables e below (s₁.setTop (mkF m 9 #[iv p0_0, iv p0_1, iv p0_2, iv p0_3, iv p0_4, iv p0_5, iv (4 : Int32), .unset, .unset, .unset, .unset, .unset] [])) _
      refine XS.iload X0.here hx rfl (hb hby at_9) rfl ?_
      refine XS.bipush X0.here hx rfl (hb hby at_11) ?_
      refine XS.iushr X0.here hx rfl (hb hby at_13) rfl ?_
      refine XS.bipush X0.here hx rfl (hb hby at_14) ?_
      show Steps p.tables e below (s₁.setTop (mkF m 16 #[iv p0_0, iv p0_1, iv p0_2, iv p0_3, iv p0_4, iv p0_5, iv (4 : Int32), .unset, .unset, .unset, .unset, .unset] [(.int (7 : Int32)), (.int ((p0_5.toUInt32 >>> ((8 : Int32) &&& 31).toUInt32).toInt32))])) _
      refine XS.iand X0.here hx rfl (hb hby at_16) rfl ?_
      show Steps p.tables e below (s₁.setTop (mkF m 17 #[iv p0_0, iv p0_1, iv p0_2, iv p0_3, iv p0_4, iv p0_5, iv (4 : Int32), .unset, .unset, .unset, .unset, .unset] [(.int (((p0_5.toUInt32 >>> ((8 : Int32) &&& 31).toUInt32).toInt32) &&& (7 : Int32)))])) _
      rw [← h_cp]
      show Steps p.tables e below (s₁.setTop (mkF m 17 #[iv p0_0, iv p0_1, iv p0_2, iv p0_3, iv p0_4, iv p0_5, iv (4 : Int32), .unset, .unset, .unset, .unset, .unset] [(.int cp)])) _
      show Steps p.tables e below (s₁.setTop (mkF m 17 #[iv p0_0, iv p0_1, iv p0_2, iv p0_3, iv p0_4, iv p0_5, iv (4 : Int32), .unset, .unset, .unset, .unset, .unset] [(.int cp)])) _
      refine XS.i2l X0.here hx rfl (hb hby at_17) rfl ?_
      show Steps p.tables e below (s₁.setTop (mkF m 18 #[iv p0_0, iv p0_1, iv p0_2, iv p0_3, iv p0_4, iv p0_5, iv (4 : Int32), .unset, .unset, .unset, .unset, .unset] [(.long (cp.toInt64))])) _
      refine XS.lstore X0.here hx rfl (hb hby at_18) rfl (l' := #[iv p0_0, iv p0_1, iv p0_2, iv p0_3, iv p0_4, iv p0_5, iv (4 : Int32), .val (.long (cp.toInt64)), .second, .unset, .unset, .unset]) rfl ?_
      refine XS.iload X0.here hx rfl (hb hby at_20) rfl ?_
      show Steps p.tables e below (s₁.setTop (mkF m 22 #[iv p0_0, iv p0_1, iv p0_2, iv p0_3, iv p0_4, iv p0_5, iv (4 : Int32), .val (.long (cp.toInt64)), .second, .unset, .unset, .unset] [(.int p0_4)])) _
      refine X0.ldcInt hx hown (mvT hZ wo0) (g := (mkF m 22 #[iv p0_0, iv p0_1, iv p0_2, iv p0_3, iv p0_4, iv p0_5, iv (4 : Int32), .val (.long (cp.toInt64)), .second, .unset, .unset, .unset] [(.int p0_4)])) rfl (hb hby at_22) _ ?_
      show Steps p.tables e below (s₁.setTop (mkF m 24 #[iv p0_0, iv p0_1, iv p0_2, iv p0_3, iv p0_4, iv p0_5, iv (4 : Int32), .val (.long (cp.toInt64)), .second, .unset, .unset, .unset] [(.int (2147483647 : Int32)), (.int p0_4)])) _
      refine XS.iand X0.here hx rfl (hb hby at_24) rfl ?_
      show Steps p.tables e below (s₁.setTop (mkF m 25 #[iv p0_0, iv p0_1, iv p0_2, iv p0_3, iv p0_4, iv p0_5, iv (4 : Int32), .val (.long (cp.toInt64)), .second, .unset, .unset, .unset] [(.int (p0_4 &&& (2147483647 : Int32)))])) _
      refine XS.iload X0.here hx rfl (hb hby at_25) rfl ?_
      refine XS.iconst X0.here hx rfl (hb hby at_27) ?_
      refine XS.iadd X0.here hx rfl (hb hby at_28) rfl ?_
      show Steps p.tables e below (s₁.setTop (mkF m 29 #[iv p0_0, iv p0_1, iv p0_2, iv p0_3, iv p0_4, iv p0_5, iv (4 : Int32), .val (.long (cp.toInt64)), .second, .unset, .unset, .unset] [(.int (5 : Int32)), (.int (p0_4 &&& (2147483647 : Int32)))])) _
      refine iremM (g := (mkF m 29 #[iv p0_0, iv p0_1, iv p0_2, iv p0_3, iv p0_4, iv p0_5, iv (4 : Int32), .val (.long (cp.toInt64)), .second, .unset, .unset, .unset] [(.int (5 : Int32)), (.int (p0_4 &&& (2147483647 : Int32)))])) X0 hx rfl (hb hby at_29) rfl (by decide) ?_
      show Steps p.tables e below (s₁.setTop (mkF m 30 #[iv p0_0, iv p0_1, iv p0_2, iv p0_3, iv p0_4, iv p0_5, iv (4 : Int32), .val (.long (cp.toInt64)), .second, .unset, .unset, .unset] [(.int ((p0_4 &&& (2147483647 : Int32)) % (5 : Int32)))])) _
      refine XS.istore X0.here hx rfl (hb hby at_30) rfl (l' := #[iv p0_0, iv p0_1, iv p0_2, iv p0_3, iv p0_4, iv p0_5, iv (4 : Int32), .val (.long (cp.toInt64)), .second, iv ((p0_4 &&& (2147483647 : Int32)) % (5 : Int32)), .unset, .unset]) rfl ?_
      show Steps p.tables e below (s₁.setTop (mkF m 32 #[iv p0_0, iv p0_1, iv p0_2, iv p0_3, iv p0_4, iv p0_5, iv (4 : Int32), .val (.long (cp.toInt64)), .second, iv ((p0_4 &&& (2147483647 : Int32)) % (5 : Int32)), .unset, .unset] [])) _
      refine st298 _ ?_
      show Steps p.tables e below (T298.setTop (mkF m 35 #[iv p0_0, iv p0_1, iv p0_2, iv p0_3, iv p0_4, iv p0_5, iv (4 : Int32), .val (.long (cp.toInt64)), .second, iv ((p0_4 &&& (2147483647 : Int32)) % (5 : Int32)), .unset, .unset] [(.ref b298)])) _
      refine XS.dup X298.here hx rfl (hb hby at_35) rfl rfl ?_
      refine XS.lload X298.here hx rfl (hb hby at_36) rfl ?_
      show Steps p.tables e below (T298.setTop (mkF m 38 #[iv p0_0, iv p0_1, iv p0_2, iv p0_3, iv p0_4, iv p0_5, iv (4 : Int32), .val (.long (cp.toInt64)), .second, iv ((p0_4 &&& (2147483647 : Int32)) % (5 : Int32)), .unset, .unset] [(.long (cp.toInt64)), (.ref b298), (.ref b298)])) _
      refine st304.trans ?_
      show Steps p.tables e below (T304.setTop (mkF m 41 #[iv p0_0, iv p0_1, iv p0_2, iv p0_3, iv p0_4, iv p0_5, iv (4 : Int32), .val (.long (cp.toInt64)), .second, iv ((p0_4 &&& (2147483647 : Int32)) % (5 : Int32)), .unset, .unset] [(.ref b298)])) _
      refine XS.astore X304.here hx rfl (hb hby at_41) rfl rfl (l' := #[iv p0_0, iv p0_1, iv p0_2, iv p0_3, iv p0_4, iv p0_5, iv (4 : Int32), .val (.long (cp.toInt64)), .second, iv ((p0_4 &&& (2147483647 : Int32)) % (5 : Int32)), rv b298, .unset]) rfl ?_
      refine XS.iload X304.here hx rfl (hb hby at_43) rfl ?_
      refine XS.iconst X304.here hx rfl (hb hby at_45) ?_
      show Steps p.tables e below (T304.setTop (mkF m 46 #[iv p0_0, iv p0_1, iv p0_2, iv p0_3, iv p0_4, iv p0_5, iv (4 : Int32), .val (.long (cp.toInt64)), .second, iv ((p0_4 &&& (2147483647 : Int32)) % (5 : Int32)), rv b298, .unset] [(.int (1 : Int32)), (.int (4 : Int32))])) _
      refine XS.icmpNo X304.here hx rfl (hb hby at_46) rfl (flt (by decide : ¬ ((4 : Int32) < (1 : Int32)))).1 ?_
      refine XS.aload X304.here hx rfl (hb hby at_49) rfl rfl ?_
      refine XS.iloadN X304.here hx rfl (hb hby at_51) rfl ?_
      show Steps p.tables e below (T304.setTop (mkF m 52 #[iv p0_0, iv p0_1, iv p0_2, iv p0_3, iv p0_4, iv p0_5, iv (4 : Int32), .val (.long (cp.toInt64)), .second, iv ((p0_4 &&& (2147483647 : Int32)) % (5 : Int32)), rv b298, .unset] [(.int p0_0), (.ref b298)])) _
      refine st312.trans ?_
      show Steps p.tables e below (T312.setTop (mkF m 55 #[iv p0_0, iv p0_1, iv p0_2, iv p0_3, iv p0_4, iv p0_5, iv (4 : Int32), .val (.long (cp.toInt64)), .second, iv ((p0_4 &&& (2147483647 : Int32)) % (5 : Int32)), rv b298, .unset] [])) _
      refine XS.iload X312.here hx rfl (hb hby at_55) rfl ?_
      refine XS.iconst X312.here hx rfl (hb hby at_57) ?_
      refine XS.icmpNo X312.here hx rfl (hb hby at_58) rfl (flt (by decide : ¬ ((4 : Int32) < (2 : Int32)))).1 ?_
      refine XS.aload X312.here hx rfl (hb hby at_61) rfl rfl ?_
      show Steps p.tables e below (T312.setTop (mkF m 63 #[iv p0_0, iv p0_1, iv p0_2, iv p0_3, iv p0_4, iv p0_5, iv (4 : Int32), .val (.long (cp.toInt64)), .second, iv ((p0_4 &&& (2147483647 : Int32)) % (5 : Int32)), rv b298, .unset] [(.ref b298)])) _
      refine XS.iloadN X312.here hx rfl (hb hby at_63) rfl ?_
      show Steps p.tables e below (T312.setTop (mkF m 64 #[iv p0_0, iv p0_1, iv p0_2, iv p0_3, iv p0_4, iv p0_5, iv (4 : Int32), .val (.long (cp.toInt64)), .second, iv ((p0_4 &&& (2147483647 : Int32)) % (5 : Int32)), rv b298, .unset] [(.int p0_1), (.ref b298)])) _
      refine st318.trans ?_
      show Steps p.tables e below (T318.setTop (mkF m 67 #[iv p0_0, iv p0_1, iv p0_2, iv p0_3, iv p0_4, iv p0_5, iv (4 : Int32), .val (.long (cp.toInt64)), .second, iv ((p0_4 &&& (2147483647 : Int32)) % (5 : Int32)), rv b298, .unset] [])) _
      refine XS.iload X318.here hx rfl (hb hby at_67) rfl ?_
      refine XS.iconst X318.here hx rfl (hb hby at_69) ?_
      show Steps p.tables e below (T318.setTop (mkF m 70 #[iv p0_0, iv p0_1, iv p0_2, iv p0_3, iv p0_4, iv p0_5, iv (4 : Int32), .val (.long (cp.toInt64)), .second, iv ((p0_4 &&& (2147483647 : Int32)) % (5 : Int32)), rv b298, .unset] [(.int (3 : Int32)), (.int (4 : Int32))])) _
      refine XS.icmpNo X318.here hx rfl (hb hby at_70) rfl (flt (by decide : ¬ ((4 : Int32) < (3 : Int32)))).1 ?_
      refine XS.aload X318.here hx rfl (hb hby at_73) rfl rfl ?_
      refine XS.iloadN X318.here hx rfl (hb hby at_75) rfl ?_
      show Steps p.tables e below (T318.setTop (mkF m 76 #[iv p0_0, iv p0_1, iv p0_2, iv p0_3, iv p0_4, iv p0_5, iv (4 : Int32), .val (.long (cp.toInt64)), .second, iv ((p0_4 &&& (2147483647 : Int32)) % (5 : Int32)), rv b298, .unset] [(.int p0_2), (.ref b298)])) _
      refine st324.trans ?_
      show Steps p.tables e below (T324.setTop (mkF m 79 #[iv p0_0, iv p0_1, iv p0_2, iv p0_3, iv p0_4, iv p0_5, iv (4 : Int32), .val (.long (cp.toInt64)), .second, iv ((p0_4 &&& (2147483647 : Int32)) % (5 : Int32)), rv b298, .unset] [])) _
      refine XS.iload X324.here hx rfl (hb hby at_79) rfl ?_
      refine XS.iconst X324.here hx rfl (hb hby at_81) ?_
      refine XS.icmpNo X324.here hx rfl (hb hby at_82) rfl (flt (by decide : ¬ ((4 : Int32) < (4 : Int32)))).1 ?_
      refine XS.aload X324.here hx rfl (hb hby at_85) rfl rfl ?_
      show Steps p.tables e below (T324.setTop (mkF m 87 #[iv p0_0, iv p0_1, iv p0_2, iv p0_3, iv p0_4, iv p0_5, iv (4 : Int32), .val (.long (cp.toInt64)), .second, iv ((p0_4 &&& (2147483647 : Int32)) % (5 : Int32)), rv b298, .unset] [(.ref b298)])) _
      refine XS.iloadN X324.here hx rfl (hb hby at_87) rfl ?_
      show Steps p.tables e below (T324.setTop (mkF m 88 #[iv p0_0, iv p0_1, iv p0_2, iv p0_3, iv p0_4, iv p0_5, iv (4 : Int32), .val (.long (cp.toInt64)), .second, iv ((p0_4 &&& (2147483647 : Int32)) % (5 : Int32)), rv b298, .unset] [(.int p0_3), (.ref b298)])) _
      refine st330.trans ?_
      show Steps p.tables e below (T330.setTop (mkF m 91 #[iv p0_0, iv p0_1, iv p0_2, iv p0_3, iv p0_4, iv p0_5, iv (4 : Int32), .val (.long (cp.toInt64)), .second, iv ((p0_4 &&& (2147483647 : Int32)) % (5 : Int32)), rv b298, .unset] [])) _
      refine XS.aload X330.here hx rfl (hb hby at_91) rfl rfl ?_
      show Steps p.tables e below (T330.setTop (mkF m 93 #[iv p0_0, iv p0_1, iv p0_2, iv p0_3, iv p0_4, iv p0_5, iv (4 : Int32), .val (.long (cp.toInt64)), .second, iv ((p0_4 &&& (2147483647 : Int32)) % (5 : Int32)), rv b298, .unset] [(.ref b298)])) _
      rw [← h_fr]
      show Steps p.tables e below (T330.setTop (mkF m 93 #[iv p0_0, iv p0_1, iv p0_2, iv p0_3, iv p0_4, iv p0_5, iv (4 : Int32), .val (.long (cp.toInt64)), .second, iv fr, rv b298, .unset] [(.ref b298)])) _
      exact k_
    have hx_336 : fr = (0 : Int32) ∨ fr = (1 : Int32) ∨ fr = (2 : Int32) ∨ fr = (3 : Int32) ∨ fr = (4 : Int32) := own_lt5 fr hfr
    rcases hx_336 with rfl | rfl | rfl | rfl | rfl
    · skip
      have f338 := (Nat.le_trans f331 K330q.1)
      have f339 := (f329.keep K330q)
      obtain ⟨cq337, kq337, q337a, q337b, q337c⟩ := isOf hZ rfl f339
      obtain ⟨_, _, ⟨T337, L337, k337, n337⟩, -, X337, ⟨Lc337, hQ337, l337, y337, z337⟩, st337⟩ := X330.virtualBack hx (y := MN9) (z := MN9) hown (mvT hZ wo43) (mvT hZ wo44) (notFace_of_selects (args := #[]) (mvT hZ wo46)) (mvT hZ wo46) (mvT hZ wo45) (by decide) (backOf (W := 0) (rm_in4_0 l Z a0 hw [] b298 ar2_330 ln2_330 (nar .byte (p0_0.toInt8.toInt32)) (nar .byte (p0_1.toInt8.toInt32)) (nar .byte (p0_2.toInt8.toInt32)) (nar .byte (p0_3.toInt8.toInt32)) (T330.heap) n0 f338 hq330_1 hq330_2 hq330_3 hq330_4 hq330_5 (hq330_6 : (4 : Int32).toInt ≤ ln2_330.toInt)) hZ wo47 wo3 (by decide) (by decide)) q337a q337c (g := (mkF m 95 #[iv p0_0, iv p0_1, iv p0_2, iv p0_3, iv p0_4, iv p0_5, iv (4 : Int32), .val (.long (cp.toInt64)), .second, iv (0 : Int32), rv b298, .unset] [(.int (0 : Int32)), (.ref b298)])) rfl (by rw [hml]; rfl) (Steps.refl _) (argsL := [(.int (0 : Int32))]) (rest := []) (lenOf pd_2 rfl) rfl (by show 2 * 0 + _ ≤ _; exact Nat.le_of_eq rfl) (hb hby at_95) (fun _ _ => ⟨rfl, rfl, (by decide : 6 + 0 ≤ _), (by decide : 22 + 0 ≤ _)⟩)
      dsimp only [Pt.U, Pt.locs, Pt.cells, Pt.slots] at X337 l337 y337 z337 st337 hQ337
      rw [l337, y337, z337] at X337
      obtain ⟨rfl, N337q, K337q, hq337_0⟩ := hQ337
      have N340 := Fr.app N332 N337q
      have K341 : Keep h0 T337.heap [] := (K333).trans K337q (allS (P := fun x => x ∈ [] ∨ h0.size ≤ x) (Or.inr bz334) all0)
      have f342 := (hq330_3.keep K337q (ninS hq330_2 nin0))
      have f343 := (hq330_4.keep K337q (ninS hq330_2 nin0))
      have f345 := (Nat.le_trans f338 K337q.1)
      have f346 := (f339.keep K337q)
      obtain ⟨cq344, kq344, q344a, q344b, q344c⟩ := isOf hZ rfl f346
      obtain ⟨_, _, ⟨T344, L344, k344, n344⟩, -, X344, ⟨Lc344, hQ344, l344, y344, z344⟩, st344⟩ := X337.virtualBack hx (y := MN10) (z := MN10) hown (mvT hZ wo48) (mvT hZ wo49) (notFace_of_selects (args := #[]) (mvT hZ wo51)) (mvT hZ wo51) (mvT hZ wo50) (by decide) (backOf (W := 0) (rm_tb4 l Z a0 hw [] b298 ar2_330 ln2_330 (nar .byte (((nar .byte (p0_0.toInt8.toInt32)) ^^^ (-1 : Int32)).toInt8.toInt32)) (nar .byte (((nar .byte (p0_1.toInt8.toInt32)) ^^^ (-1 : Int32)).toInt8.toInt32)) (nar .byte (((nar .byte (p0_2.toInt8.toInt32)) ^^^ (-1 : Int32)).toInt8.toInt32)) (nar .byte (((nar .byte (p0_3.toInt8.toInt32)) ^^^ (-1 : Int32)).toInt8.toInt32)) (T337.heap) n0 f345 f342 f343 hq337_0 (hq330_6 : (4 : Int32).toInt ≤ ln2_330.toInt)) hZ wo52 wo3 (by decide) (by decide)) q344a q344c (g := (mkF m 100 #[iv p0_0, iv p0_1, iv p0_2, iv p0_3, iv p0_4, iv p0_5, iv (4 : Int32), .val (.long (cp.toInt64)), .second, iv (0 : Int32), rv b298, .unset] [(.ref b298)])) rfl (by rw [hml]; rfl) (Steps.refl _) (argsL := []) (rest := []) (lenOf pd_1 rfl) rfl (by show 2 * 0 + _ ≤ _; exact Nat.le_of_eq rfl) (hb hby at_100) (fun _ _ => ⟨rfl, rfl, (by decide : 6 + 1 ≤ _), (by decide : 22 + 4 ≤ _)⟩)
      dsimp only [Pt.U, Pt.locs, Pt.cells, Pt.slots] at X344 l344 y344 z344 st344 hQ344
      rw [l344, y344, z344] at X344
      obtain ⟨b_344, rfl, N344q, K344q, hq344_0⟩ := hQ344
      have N347 := Fr.app N340 N344q
      have K348 : Keep h0 T344.heap [] := (K341).trans K344q all0
      obtain ⟨kk349, cl349, Ar349, qq349, Sz349, Nn349, Hs349, Gf349⟩ := id hq344_0
      have f351 := (Nat.le_trans f345 K344q.1)
      obtain ⟨_, _, ⟨T350, L350, k350, n350⟩, -, X350, ⟨Lc350, hQ350, l350, y350, z350⟩, st350⟩ := Jvm.LawKit.callS X344 hx (y := MN11) hown (mvT hZ wo53) (mvT hZ wo54) (mvT hZ wo55) (mvT hZ wo56) (by decide) (backOf (W := 0) (rm_ok4_0 l Z a0 hw [] b_344 p0_0 (0 : Int32) (nar .byte (((nar .byte (p0_0.toInt8.toInt32)) ^^^ (-1 : Int32)).toInt8.toInt32)) (nar .byte (((nar .byte (p0_1.toInt8.toInt32)) ^^^ (-1 : Int32)).toInt8.toInt32)) (nar .byte (((nar .byte (p0_2.toInt8.toInt32)) ^^^ (-1 : Int32)).toInt8.toInt32)) (nar .byte (((nar .byte (p0_3.toInt8.toInt32)) ^^^ (-1 : Int32)).toInt8.toInt32)) (T344.heap) n0 f351 hq344_0) hZ wo56 wo55 (by decide) (by decide)) (g := (mkF m 127 #[iv p0_0, iv p0_1, iv p0_2, iv p0_3, iv p0_4, iv p0_5, iv (4 : Int32), .val (.long (cp.toInt64)), .second, iv (0 : Int32), rv b298, rv b_344] [(.int (0 : Int32)), (.int p0_0), (.int (0 : Int32)), (.ref b_344)])) rfl (by rw [hml]; rfl) (argsL := [(.ref b_344), (.int (0 : Int32)), (.int p0_0), (.int (0 : Int32))]) (rest := []) (lenOf pd_8 rfl) rfl (by show 2 * 0 + _ ≤ _; exact Nat.le_of_eq rfl) (hb hby at_127) (fun _ _ => ⟨rfl, rfl, (by decide : 7 + 0 ≤ _), (by decide : 26 + 0 ≤ _)⟩)
      dsimp only [Pt.U, Pt.locs, Pt.cells, Pt.slots] at X350 l350 y350 z350 st350 hQ350
      rw [l350, y350, z350] at X350
      obtain ⟨rfl, N350q, K350q⟩ := hQ350
      have N352 := Fr.app N347 N350q
      have q353 : (if ((nar .byte (((nar .byte (p0_0.toInt8.toInt32)) ^^^ (-1 : Int32)).toInt8.toInt32)) &&& (255 : Int32)) = (if (0 : Int32) < (0 : Int32) then (p0_0 &&& (255 : Int32)) else ((255 : Int32) - (p0_0 &&& (255 : Int32)))) then (1 : Int32) else (0 : Int32)) = (1 : Int32) := if_pos ((own_k2 _).trans (if_neg (by decide)).symm)
      obtain ⟨_, _, ⟨T354, L354, k354, n354⟩, -, X354, ⟨Lc354, hQ354, l354, y354, z354⟩, st354⟩ := Jvm.LawKit.callS X350 hx (y := MN11) hown (mvT hZ wo53) (mvT hZ wo54) (mvT hZ wo55) (mvT hZ wo56) (by decide) (backOf (W := 0) (rm_ok4_1 l Z a0 hw [] b_344 p0_1 (0 : Int32) (nar .byte (((nar .byte (p0_0.toInt8.toInt32)) ^^^ (-1 : Int32)).toInt8.toInt32)) (nar .byte (((nar .byte (p0_1.toInt8.toInt32)) ^^^ (-1 : Int32)).toInt8.toInt32)) (nar .byte (((nar .byte (p0_2.toInt8.toInt32)) ^^^ (-1 : Int32)).toInt8.toInt32)) (nar .byte (((nar .byte (p0_3.toInt8.toInt32)) ^^^ (-1 : Int32)).toInt8.toInt32)) (T344.heap) n0 f351 hq344_0) hZ wo56 wo55 (by decide) (by decide)) (g := (mkF m 145 #[iv p0_0, iv p0_1, iv p0_2, iv p0_3, iv p0_4, iv p0_5, iv (4 : Int32), .val (.long (cp.toInt64)), .second, iv (0 : Int32), rv b298, rv b_344] [(.int (0 : Int32)), (.int p0_1), (.int (1 : Int32)), (.ref b_344)])) rfl (by rw [hml]; rfl) (argsL := [(.ref b_344), (.int (1 : Int32)), (.int p0_1), (.int (0 : Int32))]) (rest := []) (lenOf pd_8 rfl) rfl (by show 2 * 0 + _ ≤ _; exact Nat.le_of_eq rfl) (hb hby at_145) (fun _ _ => ⟨rfl, K350q, (by decide : 7 + 0 ≤ _), (by decide : 26 + 0 ≤ _)⟩)
      dsimp only [Pt.U, Pt.locs, Pt.cells, Pt.slots] at X354 l354 y354 z354 st354 hQ354
      rw [l354, y354, z354] at X354
      obtain ⟨rfl, N354q, K354q⟩ := hQ354
      have N355 := Fr.app N352 N354q
      have q356 : (if ((nar .byte (((nar .byte (p0_1.toInt8.toInt32)) ^^^ (-1 : Int32)).toInt8.toInt32)) &&& (255 : Int32)) = (if (1 : Int32) < (0 : Int32) then (p0_1 &&& (255 : Int32)) else ((255 : Int32) - (p0_1 &&& (255 : Int32)))) then (1 : Int32) else (0 : Int32)) = (1 : Int32) := if_pos ((own_k2 _).trans (if_neg (by decide)).symm)
      obtain ⟨_, _, ⟨T357, L357, k357, n357⟩, -, X357, ⟨Lc357, hQ357, l357, y357, z357⟩, st357⟩ := Jvm.LawKit.callS X354 hx (y := MN11) hown (mvT hZ wo53) (mvT hZ wo54) (mvT hZ wo55) (mvT hZ wo56) (by decide) (backOf (W := 0) (rm_ok4_2 l Z a0 hw [] b_344 p0_2 (0 : Int32) (nar .byte (((nar .byte (p0_0.toInt8.toInt32)) ^^^ (-1 : Int32)).toInt8.toInt32)) (nar .byte (((nar .byte (p0_1.toInt8.toInt32)) ^^^ (-1 : Int32)).toInt8.toInt32)) (nar .byte (((nar .byte (p0_2.toInt8.toInt32)) ^^^ (-1 : Int32)).toInt8.toInt32)) (nar .byte (((nar .byte (p0_3.toInt8.toInt32)) ^^^ (-1 : Int32)).toInt8.toInt32)) (T344.heap) n0 f351 hq344_0) hZ wo56 wo55 (by decide) (by decide)) (g := (mkF m 163 #[iv p0_0, iv p0_1, iv p0_2, iv p0_3, iv p0_4, iv p0_5, iv (4 : Int32), .val (.long (cp.toInt64)), .second, iv (0 : Int32), rv b298, rv b_344] [(.int (0 : Int32)), (.int p0_2), (.int (2 : Int32)), (.ref b_344)])) rfl (by rw [hml]; rfl) (argsL := [(.ref b_344), (.int (2 : Int32)), (.int p0_2), (.int (0 : Int32))]) (rest := []) (lenOf pd_8 rfl) rfl (by show 2 * 0 + _ ≤ _; exact Nat.le_of_eq rfl) (hb hby at_163) (fun _ _ => ⟨rfl, K354q, (by decide : 7 + 0 ≤ _), (by decide : 26 + 0 ≤ _)⟩)
      dsimp only [Pt.U, Pt.locs, Pt.cells, Pt.slots] at X357 l357 y357 z357 st357 hQ357
      rw [l357, y357, z357] at X357
      obtain ⟨rfl, N357q, K357q⟩ := hQ357
      have N358 := Fr.app N355 N357q
      have q359 : (if ((nar .byte (((nar .byte (p0_2.toInt8.toInt32)) ^^^ (-1 : Int32)).toInt8.toInt32)) &&& (255 : Int32)) = (if (2 : Int32) < (0 : Int32) then (p0_2 &&& (255 : Int32)) else ((255 : Int32) - (p0_2 &&& (255 : Int32)))) then (1 : Int32) else (0 : Int32)) = (1 : Int32) := if_pos ((own_k2 _).trans (if_neg (by decide)).symm)
      obtain ⟨_, _, ⟨T360, L360, k360, n360⟩, -, X360, ⟨Lc360, hQ360, l360, y360, z360⟩, st360⟩ := Jvm.LawKit.callS X357 hx (y := MN11) hown (mvT hZ wo53) (mvT hZ wo54) (mvT hZ wo55) (mvT hZ wo56) (by decide) (backOf (W := 0) (rm_ok4_3 l Z a0 hw [] b_344 p0_3 (0 : Int32) (nar .byte (((nar .byte (p0_0.toInt8.toInt32)) ^^^ (-1 : Int32)).toInt8.toInt32)) (nar .byte (((nar .byte (p0_1.toInt8.toInt32)) ^^^ (-1 : Int32)).toInt8.toInt32)) (nar .byte (((nar .byte (p0_2.toInt8.toInt32)) ^^^ (-1 : Int32)).toInt8.toInt32)) (nar .byte (((nar .byte (p0_3.toInt8.toInt32)) ^^^ (-1 : Int32)).toInt8.toInt32)) (T344.heap) n0 f351 hq344_0) hZ wo56 wo55 (by decide) (by decide)) (g := (mkF m 181 #[iv p0_0, iv p0_1, iv p0_2, iv p0_3, iv p0_4, iv p0_5, iv (4 : Int32), .val (.long (cp.toInt64)), .second, iv (0 : Int32), rv b298, rv b_344] [(.int (0 : Int32)), (.int p0_3), (.int (3 : Int32)), (.ref b_344)])) rfl (by rw [hml]; rfl) (argsL := [(.ref b_344), (.int (3 : Int32)), (.int p0_3), (.int (0 : Int32))]) (rest := []) (lenOf pd_8 rfl) rfl (by show 2 * 0 + _ ≤ _; exact Nat.le_of_eq rfl) (hb hby at_181) (fun _ _ => ⟨rfl, K357q, (by decide : 7 + 0 ≤ _), (by decide : 26 + 0 ≤ _)⟩)
      dsimp only [Pt.U, Pt.locs, Pt.cells, Pt.slots] at X360 l360 y360 z360 st360 hQ360
      rw [l360, y360, z360] at X360
      obtain ⟨rfl, N360q, K360q⟩ := hQ360
      have N361 := Fr.app N358 N360q
      have q362 : (if ((nar .byte (((nar .byte (p0_3.toInt8.toInt32)) ^^^ (-1 : Int32)).toInt8.toInt32)) &&& (255 : Int32)) = (if (3 : Int32) < (0 : Int32) then (p0_3 &&& (255 : Int32)) else ((255 : Int32) - (p0_3 &&& (255 : Int32)))) then (1 : Int32) else (0 : Int32)) = (1 : Int32) := if_pos ((own_k2 _).trans (if_neg (by decide)).symm)
      obtain ⟨fs, hr, hrun, hended, hW, hsame⟩ := X360.leave (v := some (.int (1 : Int32))) (fun h => by rw [Bd.returns] at h; cases h)
      refine ⟨_, _, pre335 _ ?_, hrun, hended, _, _, rfl, ?_, ⟨_, rfl⟩, hW, hsame.mono (by decide) (by decide)⟩
      · show Steps p.tables e below (T330.setTop (mkF m 93 #[iv p0_0, iv p0_1, iv p0_2, iv p0_3, iv p0_4, iv p0_5, iv (4 : Int32), .val (.long (cp.toInt64)), .second, iv (0 : Int32), rv b298, .unset] [(.ref b298)])) _
        refine XS.iload X330.here hx rfl (hb hby at_93) rfl ?_
        show Steps p.tables e below (T330.setTop (mkF m 95 #[iv p0_0, iv p0_1, iv p0_2, iv p0_3, iv p0_4, iv p0_5, iv (4 : Int32), .val (.long (cp.toInt64)), .second, iv (0 : Int32), rv b298, .unset] [(.int (0 : Int32)), (.ref b298)])) _
        refine st337.trans ?_
        show Steps p.tables e below (T337.setTop (mkF m 98 #[iv p0_0, iv p0_1, iv p0_2, iv p0_3, iv p0_4, iv p0_5, iv (4 : Int32), .val (.long (cp.toInt64)), .second, iv (0 : Int32), rv b298, .unset] [])) _
        refine XS.aload X337.here hx rfl (hb hby at_98) rfl rfl ?_
        show Steps p.tables e below (T337.setTop (mkF m 100 #[iv p0_0, iv p0_1, iv p0_2, iv p0_3, iv p0_4, iv p0_5, iv (4 : Int32), .val (.long (cp.toInt64)), .second, iv (0 : Int32), rv b298, .unset] [(.ref b298)])) _
        refine st344.trans ?_
        show Steps p.tables e below (T344.setTop (mkF m 103 #[iv p0_0, iv p0_1, iv p0_2, iv p0_3, iv p0_4, iv p0_5, iv (4 : Int32), .val (.long (cp.toInt64)), .second, iv (0 : Int32), rv b298, .unset] [(.ref b_344)])) _
        refine XS.astore X344.here hx rfl (hb hby at_103) rfl rfl (l' := #[iv p0_0, iv p0_1, iv p0_2, iv p0_3, iv p0_4, iv p0_5, iv (4 : Int32), .val (.long (cp.toInt64)), .second, iv (0 : Int32), rv b298, rv b_344]) rfl ?_
        refine XS.aload X344.here hx rfl (hb hby at_105) rfl rfl ?_
        show Steps p.tables e below (T344.setTop (mkF m 107 #[iv p0_0, iv p0_1, iv p0_2, iv p0_3, iv p0_4, iv p0_5, iv (4 : Int32), .val (.long (cp.toInt64)), .second, iv (0 : Int32), rv b298, rv b_344] [(.ref b_344)])) _
        refine X344.arraylength hx (Ar349.1) (State.isArrayOf_alike hZ.alike Ar349.2.1) (g := (mkF m 107 #[iv p0_0, iv p0_1, iv p0_2, iv p0_3, iv p0_4, iv p0_5, iv (4 : Int32), .val (.long (cp.toInt64)), .second, iv (0 : Int32), rv b298, rv b_344] [(.ref b_344)])) rfl rfl (hb hby at_107) _ ?_
        rw [len_of Sz349 Nn349]
        show Steps p.tables e below (T344.setTop (mkF m 108 #[iv p0_0, iv p0_1, iv p0_2, iv p0_3, iv p0_4, iv p0_5, iv (4 : Int32), .val (.long (cp.toInt64)), .second, iv (0 : Int32), rv b298, rv b_344] [(.int (4 : Int32))])) _
        refine XS.iload X344.here hx rfl (hb hby at_108) rfl ?_
        show Steps p.tables e below (T344.setTop (mkF m 110 #[iv p0_0, iv p0_1, iv p0_2, iv p0_3, iv p0_4, iv p0_5, iv (4 : Int32), .val (.long (cp.toInt64)), .second, iv (0 : Int32), rv b298, rv b_344] [(.int (4 : Int32)), (.int (4 : Int32))])) _
        refine XS.icmpYes X344.here hx rfl (pc0 := 110) (pc' := 115) rfl (hb hby at_110) rfl (teq (by decide : (4 : Int32) = (4 : Int32))).1 (by decide) (by decide) ?_
        refine XS.iload X344.here hx rfl (hb hby at_115) rfl ?_
        refine XS.iconst X344.here hx rfl (hb hby at_117) ?_
        refine XS.icmpNo X344.here hx rfl (hb hby at_118) rfl (flt (by decide : ¬ ((4 : Int32) < (1 : Int32)))).1 ?_
        show Steps p.tables e below (T344.setTop (mkF m 121 #[iv p0_0, iv p0_1, iv p0_2, iv p0_3, iv p0_4, iv p0_5, iv (4 : Int32), .val (.long (cp.toInt64)), .second, iv (0 : Int32), rv b298, rv b_344] [])) _
        refine XS.aload X344.here hx rfl (hb hby at_121) rfl rfl ?_
        refine XS.iconst X344.here hx rfl (hb hby at_123) ?_
        refine XS.iloadN X344.here hx rfl (hb hby at_124) rfl ?_
        refine XS.iload X344.here hx rfl (hb hby at_125) rfl ?_
        show Steps p.tables e below (T344.setTop (mkF m 127 #[iv p0_0, iv p0_1, iv p0_2, iv p0_3, iv p0_4, iv p0_5, iv (4 : Int32), .val (.long (cp.toInt64)), .second, iv (0 : Int32), rv b298, rv b_344] [(.int (0 : Int32)), (.int p0_0), (.int (0 : Int32)), (.ref b_344)])) _
        refine st350 _ ?_
        show Steps p.tables e below (T350.setTop (mkF m 130 #[iv p0_0, iv p0_1, iv p0_2, iv p0_3, iv p0_4, iv p0_5, iv (4 : Int32), .val (.long (cp.toInt64)), .second, iv (0 : Int32), rv b298, rv b_344] [(.int (if ((nar .byte (((nar .byte (p0_0.toInt8.toInt32)) ^^^ (-1 : Int32)).toInt8.toInt32)) &&& (255 : Int32)) = (if (0 : Int32) < (0 : Int32) then (p0_0 &&& (255 : Int32)) else ((255 : Int32) - (p0_0 &&& (255 : Int32)))) then (1 : Int32) else (0 : Int32)))])) _
        rw [q353]
        show Steps p.tables e below (T350.setTop (mkF m 130 #[iv p0_0, iv p0_1, iv p0_2, iv p0_3, iv p0_4, iv p0_5, iv (4 : Int32), .val (.long (cp.toInt64)), .second, iv (0 : Int32), rv b298, rv b_344] [(.int (1 : Int32))])) _
        show Steps p.tables e below (T350.setTop (mkF m 130 #[iv p0_0, iv p0_1, iv p0_2, iv p0_3, iv p0_4, iv p0_5, iv (4 : Int32), .val (.long (cp.toInt64)), .second, iv (0 : Int32), rv b298, rv b_344] [(.int (1 : Int32))])) _
        refine XS.ifNo X350.here hx rfl (hb hby at_130) rfl ((if0 _ _).trans (feq (by decide : ¬ ((1 : Int32) = (0 : Int32)))).1) ?_
        show Steps p.tables e below (T350.setTop (mkF m 133 #[iv p0_0, iv p0_1, iv p0_2, iv p0_3, iv p0_4, iv p0_5, iv (4 : Int32), .val (.long (cp.toInt64)), .second, iv (0 : Int32), rv b298, rv b_344] [])) _
        refine XS.iload X350.here hx rfl (hb hby at_133) rfl ?_
        refine XS.iconst X350.here hx rfl (hb hby at_135) ?_
        refine XS.icmpNo X350.here hx rfl (hb hby at_136) rfl (flt (by decide : ¬ ((4 : Int32) < (2 : Int32)))).1 ?_
        refine XS.aload X350.here hx rfl (hb hby at_139) rfl rfl ?_
        show Steps p.tables e below (T350.setTop (mkF m 141 #[iv p0_0, iv p0_1, iv p0_2, iv p0_3, iv p0_4, iv p0_5, iv (4 : Int32), .val (.long (cp.toInt64)), .second, iv (0 : Int32), rv b298, rv b_344] [(.ref b_344)])) _
        refine XS.iconst X350.here hx rfl (hb hby at_141) ?_
        refine XS.iloadN X350.here hx rfl (hb hby at_142) rfl ?_
        refine XS.iload X350.here hx rfl (hb hby at_143) rfl ?_
        show Steps p.tables e below (T350.setTop (mkF m 145 #[iv p0_0, iv p0_1, iv p0_2, iv p0_3, iv p0_4, iv p0_5, iv (4 : Int32), .val (.long (cp.toInt64)), .second, iv (0 : Int32), rv b298, rv b_344] [(.int (0 : Int32)), (.int p0_1), (.int (1 : Int32)), (.ref b_344)])) _
        refine st354 _ ?_
        show Steps p.tables e below (T354.setTop (mkF m 148 #[iv p0_0, iv p0_1, iv p0_2, iv p0_3, iv p0_4, iv p0_5, iv (4 : Int32), .val (.long (cp.toInt64)), .second, iv (0 : Int32), rv b298, rv b_344] [(.int (if ((nar .byte (((nar .byte (p0_1.toInt8.toInt32)) ^^^ (-1 : Int32)).toInt8.toInt32)) &&& (255 : Int32)) = (if (1 : Int32) < (0 : Int32) then (p0_1 &&& (255 : Int32)) else ((255 : Int32) - (p0_1 &&& (255 : Int32)))) then (1 : Int32) else (0 : Int32)))])) _
        rw [q356]
        show Steps p.tables e below (T354.setTop (mkF m 148 #[iv p0_0, iv p0_1, iv p0_2, iv p0_3, iv p0_4, iv p0_5, iv (4 : Int32), .val (.long (cp.toInt64)), .second, iv (0 : Int32), rv b298, rv b_344] [(.int (1 : Int32))])) _
        show Steps p.tables e below (T354.setTop (mkF m 148 #[iv p0_0, iv p0_1, iv p0_2, iv p0_3, iv p0_4, iv p0_5, iv (4 : Int32), .val (.long (cp.toInt64)), .second, iv (0 : Int32), rv b298, rv b_344] [(.int (1 : Int32))])) _
        refine XS.ifNo X354.here hx rfl (hb hby at_148) rfl ((if0 _ _).trans (feq (by decide : ¬ ((1 : Int32) = (0 : Int32)))).1) ?_
        refine XS.iload X354.here hx rfl (hb hby at_151) rfl ?_
        show Steps p.tables e below (T354.setTop (mkF m 153 #[iv p0_0, iv p0_1, iv p0_2, iv p0_3, iv p0_4, iv p0_5, iv (4 : Int32), .val (.long (cp.toInt64)), .second, iv (0 : Int32), rv b298, rv b_344] [(.int (4 : Int32))])) _
        refine XS.iconst X354.here hx rfl (hb hby at_153) ?_
        refine XS.icmpNo X354.here hx rfl (hb hby at_154) rfl (flt (by decide : ¬ ((4 : Int32) < (3 : Int32)))).1 ?_
        refine XS.aload X354.here hx rfl (hb hby at_157) rfl rfl ?_
        refine XS.iconst X354.here hx rfl (hb hby at_159) ?_
        show Steps p.tables e below (T354.setTop (mkF m 160 #[iv p0_0, iv p0_1, iv p0_2, iv p0_3, iv p0_4, iv p0_5, iv (4 : Int32), .val (.long (cp.toInt64)), .second, iv (0 : Int32), rv b298, rv b_344] [(.int (2 : Int32)), (.ref b_344)])) _
        refine XS.iloadN X354.here hx rfl (hb hby at_160) rfl ?_
        refine XS.iload X354.here hx rfl (hb hby at_161) rfl ?_
        show Steps p.tables e below (T354.setTop (mkF m 163 #[iv p0_0, iv p0_1, iv p0_2, iv p0_3, iv p0_4, iv p0_5, iv (4 : Int32), .val (.long (cp.toInt64)), .second, iv (0 : Int32), rv b298, rv b_344] [(.int (0 : Int32)), (.int p0_2), (.int (2 : Int32)), (.ref b_344)])) _
        refine st357 _ ?_
        show Steps p.tables e below (T357.setTop (mkF m 166 #[iv p0_0, iv p0_1, iv p0_2, iv p0_3, iv p0_4, iv p0_5, iv (4 : Int32), .val (.long (cp.toInt64)), .second, iv (0 : Int32), rv b298, rv b_344] [(.int (if ((nar .byte (((nar .byte (p0_2.toInt8.toInt32)) ^^^ (-1 : Int32)).toInt8.toInt32)) &&& (255 : Int32)) = (if (2 : Int32) < (0 : Int32) then (p0_2 &&& (255 : Int32)) else ((255 : Int32) - (p0_2 &&& (255 : Int32)))) then (1 : Int32) else (0 : Int32)))])) _
        rw [q359]
        show Steps p.tables e below (T357.setTop (mkF m 166 #[iv p0_0, iv p0_1, iv p0_2, iv p0_3, iv p0_4, iv p0_5, iv (4 : Int32), .val (.long (cp.toInt64)), .second, iv (0 : Int32), rv b298, rv b_344] [(.int (1 : Int32))])) _
        show Steps p.tables e below (T357.setTop (mkF m 166 #[iv p0_0, iv p0_1, iv p0_2, iv p0_3, iv p0_4, iv p0_5, iv (4 : Int32), .val (.long (cp.toInt64)), .second, iv (0 : Int32), rv b298, rv b_344] [(.int (1 : Int32))])) _
        refine XS.ifNo X357.here hx rfl (hb hby at_166) rfl ((if0 _ _).trans (feq (by decide : ¬ ((1 : Int32) = (0 : Int32)))).1) ?_
        refine XS.iload X357.here hx rfl (hb hby at_169) rfl ?_
        refine XS.iconst X357.here hx rfl (hb hby at_171) ?_
        show Steps p.tables e below (T357.setTop (mkF m 172 #[iv p0_0, iv p0_1, iv p0_2, iv p0_3, iv p0_4, iv p0_5, iv (4 : Int32), .val (.long (cp.toInt64)), .second, iv (0 : Int32), rv b298, rv b_344] [(.int (4 : Int32)), (.int (4 : Int32))])) _
        refine XS.icmpNo X357.here hx rfl (hb hby at_172) rfl (flt (by decide : ¬ ((4 : Int32) < (4 : Int32)))).1 ?_
        refine XS.aload X357.here hx rfl (hb hby at_175) rfl rfl ?_
        refine XS.iconst X357.here hx rfl (hb hby at_177) ?_
        refine XS.iloadN X357.here hx rfl (hb hby at_178) rfl ?_
        show Steps p.tables e below (T357.setTop (mkF m 179 #[iv p0_0, iv p0_1, iv p0_2, iv p0_3, iv p0_4, iv p0_5, iv (4 : Int32), .val (.long (cp.toInt64)), .second, iv (0 : Int32), rv b298, rv b_344] [(.int p0_3), (.int (3 : Int32)), (.ref b_344)])) _
        refine XS.iload X357.here hx rfl (hb hby at_179) rfl ?_
        show Steps p.tables e below (T357.setTop (mkF m 181 #[iv p0_0, iv p0_1, iv p0_2, iv p0_3, iv p0_4, iv p0_5, iv (4 : Int32), .val (.long (cp.toInt64)), .second, iv (0 : Int32), rv b298, rv b_344] [(.int (0 : Int32)), (.int p0_3), (.int (3 : Int32)), (.ref b_344)])) _
        refine st360 _ ?_
        show Steps p.tables e below (T360.setTop (mkF m 184 #[iv p0_0, iv p0_1, iv p0_2, iv p0_3, iv p0_4, iv p0_5, iv (4 : Int32), .val (.long (cp.toInt64)), .second, iv (0 : Int32), rv b298, rv b_344] [(.int (if ((nar .byte (((nar .byte (p0_3.toInt8.toInt32)) ^^^ (-1 : Int32)).toInt8.toInt32)) &&& (255 : Int32)) = (if (3 : Int32) < (0 : Int32) then (p0_3 &&& (255 : Int32)) else ((255 : Int32) - (p0_3 &&& (255 : Int32)))) then (1 : Int32) else (0 : Int32)))])) _
        rw [q362]
        show Steps p.tables e below (T360.setTop (mkF m 184 #[iv p0_0, iv p0_1, iv p0_2, iv p0_3, iv p0_4, iv p0_5, iv (4 : Int32), .val (.long (cp.toInt64)), .second, iv (0 : Int32), rv b298, rv b_344] [(.int (1 : Int32))])) _
        show Steps p.tables e below (T360.setTop (mkF m 184 #[iv p0_0, iv p0_1, iv p0_2, iv p0_3, iv p0_4, iv p0_5, iv (4 : Int32), .val (.long (cp.toInt64)), .second, iv (0 : Int32), rv b298, rv b_344] [(.int (1 : Int32))])) _
        refine XS.ifNo X360.here hx rfl (hb hby at_184) rfl ((if0 _ _).trans (feq (by decide : ¬ ((1 : Int32) = (0 : Int32)))).1) ?_
        refine XS.iconst X360.here hx rfl (hb hby at_187) ?_
        refine XS.goto X360.here hx rfl (pc0 := 188) (pc' := 192) rfl (hb hby at_188) (by decide) (by decide) ?_
        show Steps p.tables e below (T360.setTop (mkF m 192 #[iv p0_0, iv p0_1, iv p0_2, iv p0_3, iv p0_4, iv p0_5, iv (4 : Int32), .val (.long (cp.toInt64)), .second, iv (0 : Int32), rv b298, rv b_344] [(.int (1 : Int32))])) _
        exact retN X360 hx (t := .boolean) Bd.returns (by simp) (hb hby at_192) hr
      · show Q_rm0 Z _ _ _ _ _ _ h0 n0 _ T360.heap _
        rw [K360q]
        exact ⟨rfl, N361, (K348)⟩
    · skip
      have f364 := (Nat.le_trans f331 K330q.1)
      have f365 := (f329.keep K330q)
      obtain ⟨cq363, kq363, q363a, q363b, q363c⟩ := isOf hZ rfl f365
      obtain ⟨_, _, ⟨T363, L363, k363, n363⟩, -, X363, ⟨Lc363, hQ363, l363, y363, z363⟩, st363⟩ := X330.virtualBack hx (y := MN9) (z := MN9) hown (mvT hZ wo43) (mvT hZ wo44) (notFace_of_selects (args := #[]) (mvT hZ wo46)) (mvT hZ wo46) (mvT hZ wo45) (by decide) (backOf (W := 0) (rm_in4_1 l Z a0 hw [] b298 ar2_330 ln2_330 (nar .byte (p0_0.toInt8.toInt32)) (nar .byte (p0_1.toInt8.toInt32)) (nar .byte (p0_2.toInt8.toInt32)) (nar .byte (p0_3.toInt8.toInt32)) (T330.heap) n0 f364 hq330_1 hq330_2 hq330_3 hq330_4 hq330_5 (hq330_6 : (4 : Int32).toInt ≤ ln2_330.toInt)) hZ wo47 wo3 (by decide) (by decide)) q363a q363c (g := (mkF m 95 #[iv p0_0, iv p0_1, iv p0_2, iv p0_3, iv p0_4, iv p0_5, iv (4 : Int32), .val (.long (cp.toInt64)), .second, iv (1 : Int32), rv b298, .unset] [(.int (1 : Int32)), (.ref b298)])) rfl (by rw [hml]; rfl) (Steps.refl _) (argsL := [(.int (1 : Int32))]) (rest := []) (lenOf pd_2 rfl) rfl (by show 2 * 0 + _ ≤ _; exact Nat.le_of_eq rfl) (hb hby at_95) (fun _ _ => ⟨rfl, rfl, (by decide : 6 + 0 ≤ _), (by decide : 22 + 0 ≤ _)⟩)
      dsimp only [Pt.U, Pt.locs, Pt.cells, Pt.slots] at X363 l363 y363 z363 st363 hQ363
      rw [l363, y363, z363] at X363
      obtain ⟨rfl, N363q, K363q, hq363_0⟩ := hQ363
      have N366 := Fr.app N332 N363q
      have K367 : Keep h0 T363.heap [] := (K333).trans K363q (allS (P := fun x => x ∈ [] ∨ h0.size ≤ x) (Or.inr bz334) all0)
      have f368 := (hq330_3.keep K363q (ninS hq330_2 nin0))
      have f369 := (hq330_4.keep K363q (ninS hq330_2 nin0))
      have f371 := (Nat.le_trans f364 K363q.1)
      have f372 := (f365.keep K363q)
      obtain ⟨cq370, kq370, q370a, q370b, q370c⟩ := isOf hZ rfl f372
      obtain ⟨_, _, ⟨T370, L370, k370, n370⟩, -, X370, ⟨Lc370, hQ370, l370, y370, z370⟩, st370⟩ := X363.virtualBack hx (y := MN10) (z := MN10) hown (mvT hZ wo48) (mvT hZ wo49) (notFace_of_selects (args := #[]) (mvT hZ wo51)) (mvT hZ wo51) (mvT hZ wo50) (by decide) (backOf (W := 0) (rm_tb4 l Z a0 hw [] b298 ar2_330 ln2_330 (nar .byte (p0_0.toInt8.toInt32)) (nar .byte (((nar .byte (p0_1.toInt8.toInt32)) ^^^ (-1 : Int32)).toInt8.toInt32)) (nar .byte (((nar .byte (p0_2.toInt8.toInt32)) ^^^ (-1 : Int32)).toInt8.toInt32)) (nar .byte (((nar .byte (p0_3.toInt8.toInt32)) ^^^ (-1 : Int32)).toInt8.toInt32)) (T363.heap) n0 f371 f368 f369 hq363_0 (hq330_6 : (4 : Int32).toInt ≤ ln2_330.toInt)) hZ wo52 wo3 (by decide) (by decide)) q370a q370c (g := (mkF m 100 #[iv p0_0, iv p0_1, iv p0_2, iv p0_3, iv p0_4, iv p0_5, iv (4 : Int32), .val (.long (cp.toInt64)), .second, iv (1 : Int32), rv b298, .unset] [(.ref b298)])) rfl (by rw [hml]; rfl) (Steps.refl _) (argsL := []) (rest := []) (lenOf pd_1 rfl) rfl (by show 2 * 0 + _ ≤ _; exact Nat.le_of_eq rfl) (hb hby at_100) (fun _ _ => ⟨rfl, rfl, (by decide : 6 + 1 ≤ _), (by decide : 22 + 4 ≤ _)⟩)
      dsimp only [Pt.U, Pt.locs, Pt.cells, Pt.slots] at X370 l370 y370 z370 st370 hQ370
      rw [l370, y370, z370] at X370
      obtain ⟨b_370, rfl, N370q, K370q, hq370_0⟩ := hQ370
      have N373 := Fr.app N366 N370q
      have K374 : Keep h0 T370.heap [] := (K367).trans K370q all0
      obtain ⟨kk375, cl375, Ar375, qq375, Sz375, Nn375, Hs375, Gf375⟩ := id hq370_0
      have f377 := (Nat.le_trans f371 K370q.1)
      obtain ⟨_, _, ⟨T376, L376, k376, n376⟩, -, X376, ⟨Lc376, hQ376, l376, y376, z376⟩, st376⟩ := Jvm.LawKit.callS X370 hx (y := MN11) hown (mvT hZ wo53) (mvT hZ wo54) (mvT hZ wo55) (mvT hZ wo56) (by decide) (backOf (W := 0) (rm_ok4_0 l Z a0 hw [] b_370 p0_0 (1 : Int32) (nar .byte (p0_0.toInt8.toInt32)) (nar .byte (((nar .byte (p0_1.toInt8.toInt32)) ^^^ (-1 : Int32)).toInt8.toInt32)) (nar .byte (((nar .byte (p0_2.toInt8.toInt32)) ^^^ (-1 : Int32)).toInt8.toInt32)) (nar .byte (((nar .byte (p0_3.toInt8.toInt32)) ^^^ (-1 : Int32)).toInt8.toInt32)) (T370.heap) n0 f377 hq370_0) hZ wo56 wo55 (by decide) (by decide)) (g := (mkF m 127 #[iv p0_0, iv p0_1, iv p0_2, iv p0_3, iv p0_4, iv p0_5, iv (4 : Int32), .val (.long (cp.toInt64)), .second, iv (1 : Int32), rv b298, rv b_370] [(.int (1 : Int32)), (.int p0_0), (.int (0 : Int32)), (.ref b_370)])) rfl (by rw [hml]; rfl) (argsL := [(.ref b_370), (.int (0 : Int32)), (.int p0_0), (.int (1 : Int32))]) (rest := []) (lenOf pd_8 rfl) rfl (by show 2 * 0 + _ ≤ _; exact Nat.le_of_eq rfl) (hb hby at_127) (fun _ _ => ⟨rfl, rfl, (by decide : 7 + 0 ≤ _), (by decide : 26 + 0 ≤ _)⟩)
      dsimp only [Pt.U, Pt.locs, Pt.cells, Pt.slots] at X376 l376 y376 z376 st376 hQ376
      rw [l376, y376, z376] at X376
      obtain ⟨rfl, N376q, K376q⟩ := hQ376
      have N378 := Fr.app N373 N376q
      have q379 : (if ((nar .byte (p0_0.toInt8.toInt32)) &&& (255 : Int32)) = (if (0 : Int32) < (1 : Int32) then (p0_0 &&& (255 : Int32)) else ((255 : Int32) - (p0_0 &&& (255 : Int32)))) then (1 : Int32) else (0 : Int32)) = (1 : Int32) := if_pos ((own_k1 _).trans (if_pos (by decide)).symm)
      obtain ⟨_, _, ⟨T380, L380, k380, n380⟩, -, X380, ⟨Lc380, hQ380, l380, y380, z380⟩, st380⟩ := Jvm.LawKit.callS X376 hx (y := MN11) hown (mvT hZ wo53) (mvT hZ wo54) (mvT hZ wo55) (mvT hZ wo56) (by decide) (backOf (W := 0) (rm_ok4_1 l Z a0 hw [] b_370 p0_1 (1 : Int32) (nar .byte (p0_0.toInt8.toInt32)) (nar .byte (((nar .byte (p0_1.toInt8.toInt32)) ^^^ (-1 : Int32)).toInt8.toInt32)) (nar .byte (((nar .byte (p0_2.toInt8.toInt32)) ^^^ (-1 : Int32)).toInt8.toInt32)) (nar .byte (((nar .byte (p0_3.toInt8.toInt32)) ^^^ (-1 : Int32)).toInt8.toInt32)) (T370.heap) n0 f377 hq370_0) hZ wo56 wo55 (by decide) (by decide)) (g := (mkF m 145 #[iv p0_0, iv p0_1, iv p0_2, iv p0_3, iv p0_4, iv p0_5, iv (4 : Int32), .val (.long (cp.toInt64)), .second, iv (1 : Int32), rv b298, rv b_370] [(.int (1 : Int32)), (.int p0_1), (.int (1 : Int32)), (.ref b_370)])) rfl (by rw [hml]; rfl) (argsL := [(.ref b_370), (.int (1 : Int32)), (.int p0_1), (.int (1 : Int32))]) (rest := []) (lenOf pd_8 rfl) rfl (by show 2 * 0 + _ ≤ _; exact Nat.le_of_eq rfl) (hb hby at_145) (fun _ _ => ⟨rfl, K376q, (by decide : 7 + 0 ≤ _), (by decide : 26 + 0 ≤ _)⟩)
      dsimp only [Pt.U, Pt.locs, Pt.cells, Pt.slots] at X380 l380 y380 z380 st380 hQ380
      rw [l380, y380, z380] at X380
      obtain ⟨rfl, N380q, K380q⟩ := hQ380
      have N381 := Fr.app N378 N380q
      have q382 : (if ((nar .byte (((nar .byte (p0_1.toInt8.toInt32)) ^^^ (-1 : Int32)).toInt8.toInt32)) &&& (255 : Int32)) = (if (1 : Int32) < (1 : Int32) then (p0_1 &&& (255 : Int32)) else ((255 : Int32) - (p0_1 &&& (255 : Int32)))) then (1 : Int32) else (0 : Int32)) = (1 : Int32) := if_pos ((own_k2 _).trans (if_neg (by decide)).symm)
      obtain ⟨_, _, ⟨T383, L383, k383, n383⟩, -, X383, ⟨Lc383, hQ383, l383, y383, z383⟩, st383⟩ := Jvm.LawKit.callS X380 hx (y := MN11) hown (mvT hZ wo53) (mvT hZ wo54) (mvT hZ wo55) (mvT hZ wo56) (by decide) (backOf (W := 0) (rm_ok4_2 l Z a0 hw [] b_370 p0_2 (1 : Int32) (nar .byte (p0_0.toInt8.toInt32)) (nar .byte (((nar .byte (p0_1.toInt8.toInt32)) ^^^ (-1 : Int32)).toInt8.toInt32)) (nar .byte (((nar .byte (p0_2.toInt8.toInt32)) ^^^ (-1 : Int32)).toInt8.toInt32)) (nar .byte (((nar .byte (p0_3.toInt8.toInt32)) ^^^ (-1 : Int32)).toInt8.toInt32)) (T370.heap) n0 f377 hq370_0) hZ wo56 wo55 (by decide) (by decide)) (g := (mkF m 163 #[iv p0_0, iv p0_1, iv p0_2, iv p0_3, iv p0_4, iv p0_5, iv (4 : Int32), .val (.long (cp.toInt64)), .second, iv (1 : Int32), rv b298, rv b_370] [(.int (1 : Int32)), (.int p0_2), (.int (2 : Int32)), (.ref b_370)])) rfl (by rw [hml]; rfl) (argsL := [(.ref b_370), (.int (2 : Int32)), (.int p0_2), (.int (1 : Int32))]) (rest := []) (lenOf pd_8 rfl) rfl (by show 2 * 0 + _ ≤ _; exact Nat.le_of_eq rfl) (hb hby at_163) (fun _ _ => ⟨rfl, K380q, (by decide : 7 + 0 ≤ _), (by decide : 26 + 0 ≤ _)⟩)
      dsimp only [Pt.U, Pt.locs, Pt.cells, Pt.slots] at X383 l383 y383 z383 st383 hQ383
      rw [l383, y383, z383] at X383
      obtain ⟨rfl, N383q, K383q⟩ := hQ383
      have N384 := Fr.app N381 N383q
      have q385 : (if ((nar .byte (((nar .byte (p0_2.toInt8.toInt32)) ^^^ (-1 : Int32)).toInt8.toInt32)) &&& (255 : Int32)) = (if (2 : Int32) < (1 : Int32) then (p0_2 &&& (255 : Int32)) else ((255 : Int32) - (p0_2 &&& (255 : Int32)))) then (1 : Int32) else (0 : Int32)) = (1 : Int32) := if_pos ((own_k2 _).trans (if_neg (by decide)).symm)
      obtain ⟨_, _, ⟨T386, L386, k386, n386⟩, -, X386, ⟨Lc386, hQ386, l386, y386, z386⟩, st386⟩ := Jvm.LawKit.callS X383 hx (y := MN11) hown (mvT hZ wo53) (mvT hZ wo54) (mvT hZ wo55) (mvT hZ wo56) (by decide) (backOf (W := 0) (rm_ok4_3 l Z a0 hw [] b_370 p0_3 (1 : Int32) (nar .byte (p0_0.toInt8.toInt32)) (nar .byte (((nar .byte (p0_1.toInt8.toInt32)) ^^^ (-1 : Int32)).toInt8.toInt32)) (nar .byte (((nar .byte (p0_2.toInt8.toInt32)) ^^^ (-1 : Int32)).toInt8.toInt32)) (nar .byte (((nar .byte (p0_3.toInt8.toInt32)) ^^^ (-1 : Int32)).toInt8.toInt32)) (T370.heap) n0 f377 hq370_0) hZ wo56 wo55 (by decide) (by decide)) (g := (mkF m 181 #[iv p0_0, iv p0_1, iv p0_2, iv p0_3, iv p0_4, iv p0_5, iv (4 : Int32), .val (.long (cp.toInt64)), .second, iv (1 : Int32), rv b298, rv b_370] [(.int (1 : Int32)), (.int p0_3), (.int (3 : Int32)), (.ref b_370)])) rfl (by rw [hml]; rfl) (argsL := [(.ref b_370), (.int (3 : Int32)), (.int p0_3), (.int (1 : Int32))]) (rest := []) (lenOf pd_8 rfl) rfl (by show 2 * 0 + _ ≤ _; exact Nat.le_of_eq rfl) (hb hby at_181) (fun _ _ => ⟨rfl, K383q, (by decide : 7 + 0 ≤ _), (by decide : 26 + 0 ≤ _)⟩)
      dsimp only [Pt.U, Pt.locs, Pt.cells, Pt.slots] at X386 l386 y386 z386 st386 hQ386
      rw [l386, y386, z386] at X386
      obtain ⟨rfl, N386q, K386q⟩ := hQ386
      have N387 := Fr.app N384 N386q
      have q388 : (if ((nar .byte (((nar .byte (p0_3.toInt8.toInt32)) ^^^ (-1 : Int32)).toInt8.toInt32)) &&& (255 : Int32)) = (if (3 : Int32) < (1 : Int32) then (p0_3 &&& (255 : Int32)) else ((255 : Int32) - (p0_3 &&& (255 : Int32)))) then (1 : Int32) else (0 : Int32)) = (1 : Int32) := if_pos ((own_k2 _).trans (if_neg (by decide)).symm)
      obtain ⟨fs, hr, hrun, hended, hW, hsame⟩ := X386.leave (v := some (.int (1 : Int32))) (fun h => by rw [Bd.returns] at h; cases h)
      refine ⟨_, _, pre335 _ ?_, hrun, hended, _, _, rfl, ?_, ⟨_, rfl⟩, hW, hsame.mono (by decide) (by decide)⟩
      · show Steps p.tables e below (T330.setTop (mkF m 93 #[iv p0_0, iv p0_1, iv p0_2, iv p0_3, iv p0_4, iv p0_5, iv (4 : Int32), .val (.long (cp.toInt64)), .second, iv (1 : Int32), rv b298, .unset] [(.ref b298)])) _
        refine XS.iload X330.here hx rfl (hb hby at_93) rfl ?_
        show Steps p.tables e below (T330.setTop (mkF m 95 #[iv p0_0, iv p0_1, iv p0_2, iv p0_3, iv p0_4, iv p0_5, iv (4 : Int32), .val (.long (cp.toInt64)), .second, iv (1 : Int32), rv b298, .unset] [(.int (1 : Int32)), (.ref b298)])) _
        refine st363.trans ?_
        show Steps p.tables e below (T363.setTop (mkF m 98 #[iv p0_0, iv p0_1, iv p0_2, iv p0_3, iv p0_4, iv p0_5, iv (4 : Int32), .val (.long (cp.toInt64)), .second, iv (1 : Int32), rv b298, .unset] [])) _
        refine XS.aload X363.here hx rfl (hb hby at_98) rfl rfl ?_
        show Steps p.tables e below (T363.setTop (mkF m 100 #[iv p0_0, iv p0_1, iv p0_2, iv p0_3, iv p0_4, iv p0_5, iv (4 : Int32), .val (.long (cp.toInt64)), .second, iv (1 : Int32), rv b298, .unset] [(.ref b298)])) _
        refine st370.trans ?_
        show Steps p.tables e below (T370.setTop (mkF m 103 #[iv p0_0, iv p0_1, iv p0_2, iv p0_3, iv p0_4, iv p0_5, iv (4 : Int32), .val (.long (cp.toInt64)), .second, iv (1 : Int32), rv b298, .unset] [(.ref b_370)])) _
        refine XS.astore X370.here hx rfl (hb hby at_103) rfl rfl (l' := #[iv p0_0, iv p0_1, iv p0_2, iv p0_3, iv p0_4, iv p0_5, iv (4 : Int32), .val (.long (cp.toInt64)), .second, iv (1 : Int32), rv b298, rv b_370]) rfl ?_
        show Steps p.tables e below (T370.setTop (mkF m 105 #[iv p0_0, iv p0_1, iv p0_2, iv p0_3, iv p0_4, iv p0_5, iv (4 : Int32), .val (.long (cp.toInt64)), .second, iv (1 : Int32), rv b298, rv b_370] [])) _
        refine XS.aload X370.here hx rfl (hb hby at_105) rfl rfl ?_
        show Steps p.tables e below (T370.setTop (mkF m 107 #[iv p0_0, iv p0_1, iv p0_2, iv p0_3, iv p0_4, iv p0_5, iv (4 : Int32), .val (.long (cp.toInt64)), .second, iv (1 : Int32), rv b298, rv b_370] [(.ref b_370)])) _
        refine X370.arraylength hx (Ar375.1) (State.isArrayOf_alike hZ.alike Ar375.2.1) (g := (mkF m 107 #[iv p0_0, iv p0_1, iv p0_2, iv p0_3, iv p0_4, iv p0_5, iv (4 : Int32), .val (.long (cp.toInt64)), .second, iv (1 : Int32), rv b298, rv b_370] [(.ref b_370)])) rfl rfl (hb hby at_107) _ ?_
        rw [len_of Sz375 Nn375]
        show Steps p.tables e below (T370.setTop (mkF m 108 #[iv p0_0, iv p0_1, iv p0_2, iv p0_3, iv p0_4, iv p0_5, iv (4 : Int32), .val (.long (cp.toInt64)), .second, iv (1 : Int32), rv b298, rv b_370] [(.int (4 : Int32))])) _
        refine XS.iload X370.here hx rfl (hb hby at_108) rfl ?_
        refine XS.icmpYes X370.here hx rfl (pc0 := 110) (pc' := 115) rfl (hb hby at_110) rfl (teq (by decide : (4 : Int32) = (4 : Int32))).1 (by decide) (by decide) ?_
        show Steps p.tables e below (T370.setTop (mkF m 115 #[iv p0_0, iv p0_1, iv p0_2, iv p0_3, iv p0_4, iv p0_5, iv (4 : Int32), .val (.long (cp.toInt64)), .second, iv (1 : Int32), rv b298, rv b_370] [])) _
        refine XS.iload X370.here hx rfl (hb hby at_115) rfl ?_
        refine XS.iconst X370.here hx rfl (hb hby at_117) ?_
        refine XS.icmpNo X370.here hx rfl (hb hby at_118) rfl (flt (by decide : ¬ ((4 : Int32) < (1 : Int32)))).1 ?_
        refine XS.aload X370.here hx rfl (hb hby at_121) rfl rfl ?_
        show Steps p.tables e below (T370.setTop (mkF m 123 #[iv p0_0, iv p0_1, iv p0_2, iv p0_3, iv p0_4, iv p0_5, iv (4 : Int32), .val (.long (cp.toInt64)), .second, iv (1 : Int32), rv b298, rv b_370] [(.ref b_370)])) _
        refine XS.iconst X370.here hx rfl (hb hby at_123) ?_
        refine XS.iloadN X370.here hx rfl (hb hby at_124) rfl ?_
        refine XS.iload X370.here hx rfl (hb hby at_125) rfl ?_
        show Steps p.tables e below (T370.setTop (mkF m 127 #[iv p0_0, iv p0_1, iv p0_2, iv p0_3, iv p0_4, iv p0_5, iv (4 : Int32), .val (.long (cp.toInt64)), .second, iv (1 : Int32), rv b298, rv b_370] [(.int (1 : Int32)), (.int p0_0), (.int (0 : Int32)), (.ref b_370)])) _
        refine st376 _ ?_
        show Steps p.tables e below (T376.setTop (mkF m 130 #[iv p0_0, iv p0_1, iv p0_2, iv p0_3, iv p0_4, iv p0_5, iv (4 : Int32), .val (.long (cp.toInt64)), .second, iv (1 : Int32), rv b298, rv b_370] [(.int (if ((nar .byte (p0_0.toInt8.toInt32)) &&& (255 : Int32)) = (if (0 : Int32) < (1 : Int32) then (p0_0 &&& (255 : Int32)) else ((255 : Int32) - (p0_0 &&& (255 : Int32)))) then (1 : Int32) else (0 : Int32)))])) _
        rw [q379]
        show Steps p.tables e below (T376.setTop (mkF m 130 #[iv p0_0, iv p0_1, iv p0_2, iv p0_3, iv p0_4, iv p0_5, iv (4 : Int32), .val (.long (cp.toInt64)), .second, iv (1 : Int32), rv b298, rv b_370] [(.int (1 : Int32))])) _
        show Steps p.tables e below (T376.setTop (mkF m 130 #[iv p0_0, iv p0_1, iv p0_2, iv p0_3, iv p0_4, iv p0_5, iv (4 : Int32), .val (.long (cp.toInt64)), .second, iv (1 : Int32), rv b298, rv b_370] [(.int (1 : Int32))])) _
        refine XS.ifNo X376.here hx rfl (hb hby at_130) rfl ((if0 _ _).trans (feq (by decide : ¬ ((1 : Int32) = (0 : Int32)))).1) ?_
        refine XS.iload X376.here hx rfl (hb hby at_133) rfl ?_
        show Steps p.tables e below (T376.setTop (mkF m 135 #[iv p0_0, iv p0_1, iv p0_2, iv p0_3, iv p0_4, iv p0_5, iv (4 : Int32), .val (.long (cp.toInt64)), .second, iv (1 : Int32), rv b298, rv b_370] [(.int (4 : Int32))])) _
        refine XS.iconst X376.here hx rfl (hb hby at_135) ?_
        refine XS.icmpNo X376.here hx rfl (hb hby at_136) rfl (flt (by decide : ¬ ((4 : Int32) < (2 : Int32)))).1 ?_
        refine XS.aload X376.here hx rfl (hb hby at_139) rfl rfl ?_
        refine XS.iconst X376.here hx rfl (hb hby at_141) ?_
        show Steps p.tables e below (T376.setTop (mkF m 142 #[iv p0_0, iv p0_1, iv p0_2, iv p0_3, iv p0_4, iv p0_5, iv (4 : Int32), .val (.long (cp.toInt64)), .second, iv (1 : Int32), rv b298, rv b_370] [(.int (1 : Int32)), (.ref b_370)])) _
        refine XS.iloadN X376.here hx rfl (hb hby at_142) rfl ?_
        refine XS.iload X376.here hx rfl (hb hby at_143) rfl ?_
        show Steps p.tables e below (T376.setTop (mkF m 145 #[iv p0_0, iv p0_1, iv p0_2, iv p0_3, iv p0_4, iv p0_5, iv (4 : Int32), .val (.long (cp.toInt64)), .second, iv (1 : Int32), rv b298, rv b_370] [(.int (1 : Int32)), (.int p0_1), (.int (1 : Int32)), (.ref b_370)])) _
        refine st380 _ ?_
        show Steps p.tables e below (T380.setTop (mkF m 148 #[iv p0_0, iv p0_1, iv p0_2, iv p0_3, iv p0_4, iv p0_5, iv (4 : Int32), .val (.long (cp.toInt64)), .second, iv (1 : Int32), rv b298, rv b_370] [(.int (if ((nar .byte (((nar .byte (p0_1.toInt8.toInt32)) ^^^ (-1 : Int32)).toInt8.toInt32)) &&& (255 : Int32)) = (if (1 : Int32) < (1 : Int32) then (p0_1 &&& (255 : Int32)) else ((255 : Int32) - (p0_1 &&& (255 : Int32)))) then (1 : Int32) else (0 : Int32)))])) _
        rw [q382]
        show Steps p.tables e below (T380.setTop (mkF m 148 #[iv p0_0, iv p0_1, iv p0_2, iv p0_3, iv p0_4, iv p0_5, iv (4 : Int32), .val (.long (cp.toInt64)), .second, iv (1 : Int32), rv b298, rv b_370] [(.int (1 : Int32))])) _
        show Steps p.tables e below (T380.setTop (mkF m 148 #[iv p0_0, iv p0_1, iv p0_2, iv p0_3, iv p0_4, iv p0_5, iv (4 : Int32), .val (.long (cp.toInt64)), .second, iv (1 : Int32), rv b298, rv b_370] [(.int (1 : Int32))])) _
        refine XS.ifNo X380.here hx rfl (hb hby at_148) rfl ((if0 _ _).trans (feq (by decide : ¬ ((1 : Int32) = (0 : Int32)))).1) ?_
        refine XS.iload X380.here hx rfl (hb hby at_151) rfl ?_
        refine XS.iconst X380.here hx rfl (hb hby at_153) ?_
        show Steps p.tables e below (T380.setTop (mkF m 154 #[iv p0_0, iv p0_1, iv p0_2, iv p0_3, iv p0_4, iv p0_5, iv (4 : Int32), .val (.long (cp.toInt64)), .second, iv (1 : Int32), rv b298, rv b_370] [(.int (3 : Int32)), (.int (4 : Int32))])) _
        refine XS.icmpNo X380.here hx rfl (hb hby at_154) rfl (flt (by decide : ¬ ((4 : Int32) < (3 : Int32)))).1 ?_
        refine XS.aload X380.here hx rfl (hb hby at_157) rfl rfl ?_
        refine XS.iconst X380.here hx rfl (hb hby at_159) ?_
        refine XS.iloadN X380.here hx rfl (hb hby at_160) rfl ?_
        show Steps p.tables e below (T380.setTop (mkF m 161 #[iv p0_0, iv p0_1, iv p0_2, iv p0_3, iv p0_4, iv p0_5, iv (4 : Int32), .val (.long (cp.toInt64)), .second, iv (1 : Int32), rv b298, rv b_370] [(.int p0_2), (.int (2 : Int32)), (.ref b_370)])) _
        refine XS.iload X380.here hx rfl (hb hby at_161) rfl ?_
        show Steps p.tables e below (T380.setTop (mkF m 163 #[iv p0_0, iv p0_1, iv p0_2, iv p0_3, iv p0_4, iv p0_5, iv (4 : Int32), .val (.long (cp.toInt64)), .second, iv (1 : Int32), rv b298, rv b_370] [(.int (1 : Int32)), (.int p0_2), (.int (2 : Int32)), (.ref b_370)])) _
        refine st383 _ ?_
        show Steps p.tables e below (T383.setTop (mkF m 166 #[iv p0_0, iv p0_1, iv p0_2, iv p0_3, iv p0_4, iv p0_5, iv (4 : Int32), .val (.long (cp.toInt64)), .second, iv (1 : Int32), rv b298, rv b_370] [(.int (if ((nar .byte (((nar .byte (p0_2.toInt8.toInt32)) ^^^ (-1 : Int32)).toInt8.toInt32)) &&& (255 : Int32)) = (if (2 : Int32) < (1 : Int32) then (p0_2 &&& (255 : Int32)) else ((255 : Int32) - (p0_2 &&& (255 : Int32)))) then (1 : Int32) else (0 : Int32)))])) _
        rw [q385]
        show Steps p.tables e below (T383.setTop (mkF m 166 #[iv p0_0, iv p0_1, iv p0_2, iv p0_3, iv p0_4, iv p0_5, iv (4 : Int32), .val (.long (cp.toInt64)), .second, iv (1 : Int32), rv b298, rv b_370] [(.int (1 : Int32))])) _
        show Steps p.tables e below (T383.setTop (mkF m 166 #[iv p0_0, iv p0_1, iv p0_2, iv p0_3, iv p0_4, iv p0_5, iv (4 : Int32), .val (.long (cp.toInt64)), .second, iv (1 : Int32), rv b298, rv b_370] [(.int (1 : Int32))])) _
        refine XS.ifNo X383.here hx rfl (hb hby at_166) rfl ((if0 _ _).trans (feq (by decide : ¬ ((1 : Int32) = (0 : Int32)))).1) ?_
        refine XS.iload X383.here hx rfl (hb hby at_169) rfl ?_
        refine XS.iconst X383.here hx rfl (hb hby at_171) ?_
        refine XS.icmpNo X383.here hx rfl (hb hby at_172) rfl (flt (by decide : ¬ ((4 : Int32) < (4 : Int32)))).1 ?_
        show Steps p.tables e below (T383.setTop (mkF m 175 #[iv p0_0, iv p0_1, iv p0_2, iv p0_3, iv p0_4, iv p0_5, iv (4 : Int32), .val (.long (cp.toInt64)), .second, iv (1 : Int32), rv b298, rv b_370] [])) _
        refine XS.aload X383.here hx rfl (hb hby at_175) rfl rfl ?_
        refine XS.iconst X383.here hx rfl (hb hby at_177) ?_
        refine XS.iloadN X383.here hx rfl (hb hby at_178) rfl ?_
        refine XS.iload X383.here hx rfl (hb hby at_179) rfl ?_
        show Steps p.tables e below (T383.setTop (mkF m 181 #[iv p0_0, iv p0_1, iv p0_2, iv p0_3, iv p0_4, iv p0_5, iv (4 : Int32), .val (.long (cp.toInt64)), .second, iv (1 : Int32), rv b298, rv b_370] [(.int (1 : Int32)), (.int p0_3), (.int (3 : Int32)), (.ref b_370)])) _
        refine st386 _ ?_
        show Steps p.tables e below (T386.setTop (mkF m 184 #[iv p0_0, iv p0_1, iv p0_2, iv p0_3, iv p0_4, iv p0_5, iv (4 : Int32), .val (.long (cp.toInt64)), .second, iv (1 : Int32), rv b298, rv b_370] [(.int (if ((nar .byte (((nar .byte (p0_3.toInt8.toInt32)) ^^^ (-1 : Int32)).toInt8.toInt32)) &&& (255 : Int32)) = (if (3 : Int32) < (1 : Int32) then (p0_3 &&& (255 : Int32)) else ((255 : Int32) - (p0_3 &&& (255 : Int32)))) then (1 : Int32) else (0 : Int32)))])) _
        rw [q388]
        show Steps p.tables e below (T386.setTop (mkF m 184 #[iv p0_0, iv p0_1, iv p0_2, iv p0_3, iv p0_4, iv p0_5, iv (4 : Int32), .val (.long (cp.toInt64)), .second, iv (1 : Int32), rv b298, rv b_370] [(.int (1 : Int32))])) _
        show Steps p.tables e below (T386.setTop (mkF m 184 #[iv p0_0, iv p0_1, iv p0_2, iv p0_3, iv p0_4, iv p0_5, iv (4 : Int32), .val (.long (cp.toInt64)), .second, iv (1 : Int32), rv b298, rv b_370] [(.int (1 : Int32))])) _
        refine XS.ifNo X386.here hx rfl (hb hby at_184) rfl ((if0 _ _).trans (feq (by decide : ¬ ((1 : Int32) = (0 : Int32)))).1) ?_
        show Steps p.tables e below (T386.setTop (mkF m 187 #[iv p0_0, iv p0_1, iv p0_2, iv p0_3, iv p0_4, iv p0_5, iv (4 : Int32), .val (.long (cp.toInt64)), .second, iv (1 : Int32), rv b298, rv b_370] [])) _
        refine XS.iconst X386.here hx rfl (hb hby at_187) ?_
        refine XS.goto X386.here hx rfl (pc0 := 188) (pc' := 192) rfl (hb hby at_188) (by decide) (by decide) ?_
        show Steps p.tables e below (T386.setTop (mkF m 192 #[iv p0_0, iv p0_1, iv p0_2, iv p0_3, iv p0_4, iv p0_5, iv (4 : Int32), .val (.long (cp.toInt64)), .second, iv (1 : Int32), rv b298, rv b_370] [(.int (1 : Int32))])) _
        exact retN X386 hx (t := .boolean) Bd.returns (by simp) (hb hby at_192) hr
      · show Q_rm0 Z _ _ _ _ _ _ h0 n0 _ T386.heap _
        rw [K386q]
        exact ⟨rfl, N387, (K374)⟩
    · skip
      have f390 := (Nat.le_trans f331 K330q.1)
      have f391 := (f329.keep K330q)
      obtain ⟨cq389, kq389, q389a, q389b, q389c⟩ := isOf hZ rfl f391
      obtain ⟨_, _, ⟨T389, L389, k389, n389⟩, -, X389, ⟨Lc389, hQ389, l389, y389, z389⟩, st389⟩ := X330.virtualBack hx (y := MN9) (z := MN9) hown (mvT hZ wo43) (mvT hZ wo44) (notFace_of_selects (args := #[]) (mvT hZ wo46)) (mvT hZ wo46) (mvT hZ wo45) (by decide) (backOf (W := 0) (rm_in4_2 l Z a0 hw [] b298 ar2_330 ln2_330 (nar .byte (p0_0.toInt8.toInt32)) (nar .byte (p0_1.toInt8.toInt32)) (nar .byte (p0_2.toInt8.toInt32)) (nar .byte (p0_3.toInt8.toInt32)) (T330.heap) n0 f390 hq330_1 hq330_2 hq330_3 hq330_4 hq330_5 (hq330_6 : (4 : Int32).toInt ≤ ln2_330.toInt)) hZ wo47 wo3 (by decide) (by decide)) q389a q389c (g := (mkF m 95 #[iv p0_0, iv p0_1, iv p0_2, iv p0_3, iv p0_4, iv p0_5, iv (4 : Int32), .val (.long (cp.toInt64)), .second, iv (2 : Int32), rv b298, .unset] [(.int (2 : Int32)), (.ref b298)])) rfl (by rw [hml]; rfl) (Steps.refl _) (argsL := [(.int (2 : Int32))]) (rest := []) (lenOf pd_2 rfl) rfl (by show 2 * 0 + _ ≤ _; exact Nat.le_of_eq rfl) (hb hby at_95) (fun _ _ => ⟨rfl, rfl, (by decide : 6 + 0 ≤ _), (by decide : 22 + 0 ≤ _)⟩)
      dsimp only [Pt.U, Pt.locs, Pt.cells, Pt.slots] at X389 l389 y389 z389 st389 hQ389
      rw [l389, y389, z389] at X389
      obtain ⟨rfl, N389q, K389q, hq389_0⟩ := hQ389
      have N392 := Fr.app N332 N389q
      have K393 : Keep h0 T389.heap [] := (K333).trans K389q (allS (P := fun x => x ∈ [] ∨ h0.size ≤ x) (Or.inr bz334) all0)
      have f394 := (hq330_3.keep K389q (ninS hq330_2 nin0))
      have f395 := (hq330_4.keep K389q (ninS hq330_2 nin0))
      have f397 := (Nat.le_trans f390 K389q.1)
      have f398 := (f391.keep K389q)
      obtain ⟨cq396, kq396, q396a, q396b, q396c⟩ := isOf hZ rfl f398
      obtain ⟨_, _, ⟨T396, L396, k396, n396⟩, -, X396, ⟨Lc396, hQ396, l396, y396, z396⟩, st396⟩ := X389.virtualBack hx (y := MN10) (z := MN10) hown (mvT hZ wo48) (mvT hZ wo49) (notFace_of_selects (args := #[]) (mvT hZ wo51)) (mvT hZ wo51) (mvT hZ wo50) (by decide) (backOf (W := 0) (rm_tb4 l Z a0 hw [] b298 ar2_330 ln2_330 (nar .byte (p0_0.toInt8.toInt32)) (nar .byte (p0_1.toInt8.toInt32)) (nar .byte (((nar .byte (p0_2.toInt8.toInt32)) ^^^ (-1 : Int32)).toInt8.toInt32)) (nar .byte (((nar .byte (p0_3.toInt8.toInt32)) ^^^ (-1 : Int32)).toInt8.toInt32)) (T389.heap) n0 f397 f394 f395 hq389_0 (hq330_6 : (4 : Int32).toInt ≤ ln2_330.toInt)) hZ wo52 wo3 (by decide) (by decide)) q396a q396c (g := (mkF m 100 #[iv p0_0, iv p0_1, iv p0_2, iv p0_3, iv p0_4, iv p0_5, iv (4 : Int32), .val (.long (cp.toInt64)), .second, iv (2 : Int32), rv b298, .unset] [(.ref b298)])) rfl (by rw [hml]; rfl) (Steps.refl _) (argsL := []) (rest := []) (lenOf pd_1 rfl) rfl (by show 2 * 0 + _ ≤ _; exact Nat.le_of_eq rfl) (hb hby at_100) (fun _ _ => ⟨rfl, rfl, (by decide : 6 + 1 ≤ _), (by decide : 22 + 4 ≤ _)⟩)
      dsimp only [Pt.U, Pt.locs, Pt.cells, Pt.slots] at X396 l396 y396 z396 st396 hQ396
      rw [l396, y396, z396] at X396
      obtain ⟨b_396, rfl, N396q, K396q, hq396_0⟩ := hQ396
      have N399 := Fr.app N392 N396q
      have K400 : Keep h0 T396.heap [] := (K393).trans K396q all0
      obtain ⟨kk401, cl401, Ar401, qq401, Sz401, Nn401, Hs401, Gf401⟩ := id hq396_0
      have f403 := (Nat.le_trans f397 K396q.1)
      obtain ⟨_, _, ⟨T402, L402, k402, n402⟩, -, X402, ⟨Lc402, hQ402, l402, y402, z402⟩, st402⟩ := Jvm.LawKit.callS X396 hx (y := MN11) hown (mvT hZ wo53) (mvT hZ wo54) (mvT hZ wo55) (mvT hZ wo56) (by decide) (backOf (W := 0) (rm_ok4_0 l Z a0 hw [] b_396 p0_0 (2 : Int32) (nar .byte (p0_0.toInt8.toInt32)) (nar .byte (p0_1.toInt8.toInt32)) (nar .byte (((nar .byte (p0_2.toInt8.toInt32)) ^^^ (-1 : Int32)).toInt8.toInt32)) (nar .byte (((nar .byte (p0_3.toInt8.toInt32)) ^^^ (-1 : Int32)).toInt8.toInt32)) (T396.heap) n0 f403 hq396_0) hZ wo56 wo55 (by decide) (by decide)) (g := (mkF m 127 #[iv p0_0, iv p0_1, iv p0_2, iv p0_3, iv p0_4, iv p0_5, iv (4 : Int32), .val (.long (cp.toInt64)), .second, iv (2 : Int32), rv b298, rv b_396] [(.int (2 : Int32)), (.int p0_0), (.int (0 : Int32)), (.ref b_396)])) rfl (by rw [hml]; rfl) (argsL := [(.ref b_396), (.int (0 : Int32)), (.int p0_0), (.int (2 : Int32))]) (rest := []) (lenOf pd_8 rfl) rfl (by show 2 * 0 + _ ≤ _; exact Nat.le_of_eq rfl) (hb hby at_127) (fun _ _ => ⟨rfl, rfl, (by decide : 7 + 0 ≤ _), (by decide : 26 + 0 ≤ _)⟩)
      dsimp only [Pt.U, Pt.locs, Pt.cells, Pt.slots] at X402 l402 y402 z402 st402 hQ402
      rw [l402, y402, z402] at X402
      obtain ⟨rfl, N402q, K402q⟩ := hQ402
      have N404 := Fr.app N399 N402q
      have q405 : (if ((nar .byte (p0_0.toInt8.toInt32)) &&& (255 : Int32)) = (if (0 : Int32) < (2 : Int32) then (p0_0 &&& (255 : Int32)) else ((255 : Int32) - (p0_0 &&& (255 : Int32)))) then (1 : Int32) else (0 : Int32)) = (1 : Int32) := if_pos ((own_k1 _).trans (if_pos (by decide)).symm)
      obtain ⟨_, _, ⟨T406, L406, k406, n406⟩, -, X406, ⟨Lc406, hQ406, l406, y406, z406⟩, st406⟩ := Jvm.LawKit.callS X402 hx (y := MN11) hown (mvT hZ wo53) (mvT hZ wo54) (mvT hZ wo55) (mvT hZ wo56) (by decide) (backOf (W := 0) (rm_ok4_1 l Z a0 hw [] b_396 p0_1 (2 : Int32) (nar .byte (p0_0.toInt8.toInt32)) (nar .byte (p0_1.toInt8.toInt32)) (nar .byte (((nar .byte (p0_2.toInt8.toInt32)) ^^^ (-1 : Int32)).toInt8.toInt32)) (nar .byte (((nar .byte (p0_3.toInt8.toInt32)) ^^^ (-1 : Int32)).toInt8.toInt32)) (T396.heap) n0 f403 hq396_0) hZ wo56 wo55 (by decide) (by decide)) (g := (mkF m 145 #[iv p0_0, iv p0_1, iv p0_2, iv p0_3, iv p0_4, iv p0_5, iv (4 : Int32), .val (.long (cp.toInt64)), .second, iv (2 : Int32), rv b298, rv b_396] [(.int (2 : Int32)), (.int p0_1), (.int (1 : Int32)), (.ref b_396)])) rfl (by rw [hml]; rfl) (argsL := [(.ref b_396), (.int (1 : Int32)), (.int p0_1), (.int (2 : Int32))]) (rest := []) (lenOf pd_8 rfl) rfl (by show 2 * 0 + _ ≤ _; exact Nat.le_of_eq rfl) (hb hby at_145) (fun _ _ => ⟨rfl, K402q, (by decide : 7 + 0 ≤ _), (by decide : 26 + 0 ≤ _)⟩)
      dsimp only [Pt.U, Pt.locs, Pt.cells, Pt.slots] at X406 l406 y406 z406 st406 hQ406
      rw [l406, y406, z406] at X406
      obtain ⟨rfl, N406q, K406q⟩ := hQ406
      have N407 := Fr.app N404 N406q
      have q408 : (if ((nar .byte (p0_1.toInt8.toInt32)) &&& (255 : Int32)) = (if (1 : Int32) < (2 : Int32) then (p0_1 &&& (255 : Int32)) else ((255 : Int32) - (p0_1 &&& (255 : Int32)))) then (1 : Int32) else (0 : Int32)) = (1 : Int32) := if_pos ((own_k1 _).trans (if_pos (by decide)).symm)
      obtain ⟨_, _, ⟨T409, L409, k409, n409⟩, -, X409, ⟨Lc409, hQ409, l409, y409, z409⟩, st409⟩ := Jvm.LawKit.callS X406 hx (y := MN11) hown (mvT hZ wo53) (mvT hZ wo54) (mvT hZ wo55) (mvT hZ wo56) (by decide) (backOf (W := 0) (rm_ok4_2 l Z a0 hw [] b_396 p0_2 (2 : Int32) (nar .byte (p0_0.toInt8.toInt32)) (nar .byte (p0_1.toInt8.toInt32)) (nar .byte (((nar .byte (p0_2.toInt8.toInt32)) ^^^ (-1 : Int32)).toInt8.toInt32)) (nar .byte (((nar .byte (p0_3.toInt8.toInt32)) ^^^ (-1 : Int32)).toInt8.toInt32)) (T396.heap) n0 f403 hq396_0) hZ wo56 wo55 (by decide) (by decide)) (g := (mkF m 163 #[iv p0_0, iv p0_1, iv p0_2, iv p0_3, iv p0_4, iv p0_5, iv (4 : Int32), .val (.long (cp.toInt64)), .second, iv (2 : Int32), rv b298, rv b_396] [(.int (2 : Int32)), (.int p0_2), (.int (2 : Int32)), (.ref b_396)])) rfl (by rw [hml]; rfl) (argsL := [(.ref b_396), (.int (2 : Int32)), (.int p0_2), (.int (2 : Int32))]) (rest := []) (lenOf pd_8 rfl) rfl (by show 2 * 0 + _ ≤ _; exact Nat.le_of_eq rfl) (hb hby at_163) (fun _ _ => ⟨rfl, K406q, (by decide : 7 + 0 ≤ _), (by decide : 26 + 0 ≤ _)⟩)
      dsimp only [Pt.U, Pt.locs, Pt.cells, Pt.slots] at X409 l409 y409 z409 st409 hQ409
      rw [l409, y409, z409] at X409
      obtain ⟨rfl, N409q, K409q⟩ := hQ409
      have N410 := Fr.app N407 N409q
      have q411 : (if ((nar .byte (((nar .byte (p0_2.toInt8.toInt32)) ^^^ (-1 : Int32)).toInt8.toInt32)) &&& (255 : Int32)) = (if (2 : Int32) < (2 : Int32) then (p0_2 &&& (255 : Int32)) else ((255 : Int32) - (p0_2 &&& (255 : Int32)))) then (1 : Int32) else (0 : Int32)) = (1 : Int32) := if_pos ((own_k2 _).trans (if_neg (by decide)).symm)
      obtain ⟨_, _, ⟨T412, L412, k412, n412⟩, -, X412, ⟨Lc412, hQ412, l412, y412, z412⟩, st412⟩ := Jvm.LawKit.callS X409 hx (y := MN11) hown (mvT hZ wo53) (mvT hZ wo54) (mvT hZ wo55) (mvT hZ wo56) (by decide) (backOf (W := 0) (rm_ok4_3 l Z a0 hw [] b_396 p0_3 (2 : Int32) (nar .byte (p0_0.toInt8.toInt32)) (nar .byte (p0_1.toInt8.toInt32)) (nar .byte (((nar .byte (p0_2.toInt8.toInt32)) ^^^ (-1 : Int32)).toInt8.toInt32)) (nar .byte (((nar .byte (p0_3.toInt8.toInt32)) ^^^ (-1 : Int32)).toInt8.toInt32)) (T396.heap) n0 f403 hq396_0) hZ wo56 wo55 (by decide) (by decide)) (g := (mkF m 181 #[iv p0_0, iv p0_1, iv p0_2, iv p0_3, iv p0_4, iv p0_5, iv (4 : Int32), .val (.long (cp.toInt64)), .second, iv (2 : Int32), rv b298, rv b_396] [(.int (2 : Int32)), (.int p0_3), (.int (3 : Int32)), (.ref b_396)])) rfl (by rw [hml]; rfl) (argsL := [(.ref b_396), (.int (3 : Int32)), (.int p0_3), (.int (2 : Int32))]) (rest := []) (lenOf pd_8 rfl) rfl (by show 2 * 0 + _ ≤ _; exact Nat.le_of_eq rfl) (hb hby at_181) (fun _ _ => ⟨rfl, K409q, (by decide : 7 + 0 ≤ _), (by decide : 26 + 0 ≤ _)⟩)
      dsimp only [Pt.U, Pt.locs, Pt.cells, Pt.slots] at X412 l412 y412 z412 st412 hQ412
      rw [l412, y412, z412] at X412
      obtain ⟨rfl, N412q, K412q⟩ := hQ412
      have N413 := Fr.app N410 N412q
      have q414 : (if ((nar .byte (((nar .byte (p0_3.toInt8.toInt32)) ^^^ (-1 : Int32)).toInt8.toInt32)) &&& (255 : Int32)) = (if (3 : Int32) < (2 : Int32) then (p0_3 &&& (255 : Int32)) else ((255 : Int32) - (p0_3 &&& (255 : Int32)))) then (1 : Int32) else (0 : Int32)) = (1 : Int32) := if_pos ((own_k2 _).trans (if_neg (by decide)).symm)
      obtain ⟨fs, hr, hrun, hended, hW, hsame⟩ := X412.leave (v := some (.int (1 : Int32))) (fun h => by rw [Bd.returns] at h; cases h)
      refine ⟨_, _, pre335 _ ?_, hrun, hended, _, _, rfl, ?_, ⟨_, rfl⟩, hW, hsame.mono (by decide) (by decide)⟩
      · show Steps p.tables e below (T330.setTop (mkF m 93 #[iv p0_0, iv p0_1, iv p0_2, iv p0_3, iv p0_4, iv p0_5, iv (4 : Int32), .val (.long (cp.toInt64)), .second, iv (2 : Int32), rv b298, .unset] [(.ref b298)])) _
        refine XS.iload X330.here hx rfl (hb hby at_93) rfl ?_
        show Steps p.tables e below (T330.setTop (mkF m 95 #[iv p0_0, iv p0_1, iv p0_2, iv p0_3, iv p0_4, iv p0_5, iv (4 : Int32), .val (.long (cp.toInt64)), .second, iv (2 : Int32), rv b298, .unset] [(.int (2 : Int32)), (.ref b298)])) _
        refine st389.trans ?_
        show Steps p.tables e below (T389.setTop (mkF m 98 #[iv p0_0, iv p0_1, iv p0_2, iv p0_3, iv p0_4, iv p0_5, iv (4 : Int32), .val (.long (cp.toInt64)), .second, iv (2 : Int32), rv b298, .unset] [])) _
        refine XS.aload X389.here hx rfl (hb hby at_98) rfl rfl ?_
        show Steps p.tables e below (T389.setTop (mkF m 100 #[iv p0_0, iv p0_1, iv p0_2, iv p0_3, iv p0_4, iv p0_5, iv (4 : Int32), .val (.long (cp.toInt64)), .second, iv (2 : Int32), rv b298, .unset] [(.ref b298)])) _
        refine st396.trans ?_
        show Steps p.tables e below (T396.setTop (mkF m 103 #[iv p0_0, iv p0_1, iv p0_2, iv p0_3, iv p0_4, iv p0_5, iv (4 : Int32), .val (.long (cp.toInt64)), .second, iv (2 : Int32), rv b298, .unset] [(.ref b_396)])) _
        refine XS.astore X396.here hx rfl (hb hby at_103) rfl rfl (l' := #[iv p0_0, iv p0_1, iv p0_2, iv p0_3, iv p0_4, iv p0_5, iv (4 : Int32), .val (.long (cp.toInt64)), .second, iv (2 : Int32), rv b298, rv b_396]) rfl ?_
        refine XS.aload X396.here hx rfl (hb hby at_105) rfl rfl ?_
        show Steps p.tables e below (T396.setTop (mkF m 107 #[iv p0_0, iv p0_1, iv p0_2, iv p0_3, iv p0_4, iv p0_5, iv (4 : Int32), .val (.long (cp.toInt64)), .second, iv (2 : Int32), rv b298, rv b_396] [(.ref b_396)])) _
        refine X396.arraylength hx (Ar401.1) (State.isArrayOf_alike hZ.alike Ar401.2.1) (g := (mkF m 107 #[iv p0_0, iv p0_1, iv p0_2, iv p0_3, iv p0_4, iv p0_5, iv (4 : Int32), .val (.long (cp.toInt64)), .second, iv (2 : Int32), rv b298, rv b_396] [(.ref b_396)])) rfl rfl (hb hby at_107) _ ?_
        rw [len_of Sz401 Nn401]
        show Steps p.tables e below (T396.setTop (mkF m 108 #[iv p0_0, iv p0_1, iv p0_2, iv p0_3, iv p0_4, iv p0_5, iv (4 : Int32), .val (.long (cp.toInt64)), .second, iv (2 : Int32), rv b298, rv b_396] [(.int (4 : Int32))])) _
        refine XS.iload X396.here hx rfl (hb hby at_108) rfl ?_
        refine XS.icmpYes X396.here hx rfl (pc0 := 110) (pc' := 115) rfl (hb hby at_110) rfl (teq (by decide : (4 : Int32) = (4 : Int32))).1 (by decide) (by decide) ?_
        refine XS.iload X396.here hx rfl (hb hby at_115) rfl ?_
        show Steps p.tables e below (T396.setTop (mkF m 117 #[iv p0_0, iv p0_1, iv p0_2, iv p0_3, iv p0_4, iv p0_5, iv (4 : Int32), .val (.long (cp.toInt64)), .second, iv (2 : Int32), rv b298, rv b_396] [(.int (4 : Int32))])) _
        refine XS.iconst X396.here hx rfl (hb hby at_117) ?_
        refine XS.icmpNo X396.here hx rfl (hb hby at_118) rfl (flt (by decide : ¬ ((4 : Int32) < (1 : Int32)))).1 ?_
        refine XS.aload X396.here hx rfl (hb hby at_121) rfl rfl ?_
        refine XS.iconst X396.here hx rfl (hb hby at_123) ?_
        show Steps p.tables e below (T396.setTop (mkF m 124 #[iv p0_0, iv p0_1, iv p0_2, iv p0_3, iv p0_4, iv p0_5, iv (4 : Int32), .val (.long (cp.toInt64)), .second, iv (2 : Int32), rv b298, rv b_396] [(.int (0 : Int32)), (.ref b_396)])) _
        refine XS.iloadN X396.here hx rfl (hb hby at_124) rfl ?_
        refine XS.iload X396.here hx rfl (hb hby at_125) rfl ?_
        show Steps p.tables e below (T396.setTop (mkF m 127 #[iv p0_0, iv p0_1, iv p0_2, iv p0_3, iv p0_4, iv p0_5, iv (4 : Int32), .val (.long (cp.toInt64)), .second, iv (2 : Int32), rv b298, rv b_396] [(.int (2 : Int32)), (.int p0_0), (.int (0 : Int32)), (.ref b_396)])) _
        refine st402 _ ?_
        show Steps p.tables e below (T402.setTop (mkF m 130 #[iv p0_0, iv p0_1, iv p0_2, iv p0_3, iv p0_4, iv p0_5, iv (4 : Int32), .val (.long (cp.toInt64)), .second, iv (2 : Int32), rv b298, rv b_396] [(.int (if ((nar .byte (p0_0.toInt8.toInt32)) &&& (255 : Int32)) = (if (0 : Int32) < (2 : Int32) then (p0_0 &&& (255 : Int32)) else ((255 : Int32) - (p0_0 &&& (255 : Int32)))) then (1 : Int32) else (0 : Int32)))])) _
        rw [q405]
        show Steps p.tables e below (T402.setTop (mkF m 130 #[iv p0_0, iv p0_1, iv p0_2, iv p0_3, iv p0_4, iv p0_5, iv (4 : Int32), .val (.long (cp.toInt64)), .second, iv (2 : Int32), rv b298, rv b_396] [(.int (1 : Int32))])) _
        show Steps p.tables e below (T402.setTop (mkF m 130 #[iv p0_0, iv p0_1, iv p0_2, iv p0_3, iv p0_4, iv p0_5, iv (4 : Int32), .val (.long (cp.toInt64)), .second, iv (2 : Int32), rv b298, rv b_396] [(.int (1 : Int32))])) _
        refine XS.ifNo X402.here hx rfl (hb hby at_130) rfl ((if0 _ _).trans (feq (by decide : ¬ ((1 : Int32) = (0 : Int32)))).1) ?_
        refine XS.iload X402.here hx rfl (hb hby at_133) rfl ?_
        refine XS.iconst X402.here hx rfl (hb hby at_135) ?_
        show Steps p.tables e below (T402.setTop (mkF m 136 #[iv p0_0, iv p0_1, iv p0_2, iv p0_3, iv p0_4, iv p0_5, iv (4 : Int32), .val (.long (cp.toInt64)), .second, iv (2 : Int32), rv b298, rv b_396] [(.int (2 : Int32)), (.int (4 : Int32))])) _
        refine XS.icmpNo X402.here hx rfl (hb hby at_136) rfl (flt (by decide : ¬ ((4 : Int32) < (2 : Int32)))).1 ?_
        refine XS.aload X402.here hx rfl (hb hby at_139) rfl rfl ?_
        refine XS.iconst X402.here hx rfl (hb hby at_141) ?_
        refine XS.iloadN X402.here hx rfl (hb hby at_142) rfl ?_
        show Steps p.tables e below (T402.setTop (mkF m 143 #[iv p0_0, iv p0_1, iv p0_2, iv p0_3, iv p0_4, iv p0_5, iv (4 : Int32), .val (.long (cp.toInt64)), .second, iv (2 : Int32), rv b298, rv b_396] [(.int p0_1), (.int (1 : Int32)), (.ref b_396)])) _
        refine XS.iload X402.here hx rfl (hb hby at_143) rfl ?_
        show Steps p.tables e below (T402.setTop (mkF m 145 #[iv p0_0, iv p0_1, iv p0_2, iv p0_3, iv p0_4, iv p0_5, iv (4 : Int32), .val (.long (cp.toInt64)), .second, iv (2 : Int32), rv b298, rv b_396] [(.int (2 : Int32)), (.int p0_1), (.int (1 : Int32)), (.ref b_396)])) _
        refine st406 _ ?_
        show Steps p.tables e below (T406.setTop (mkF m 148 #[iv p0_0, iv p0_1, iv p0_2, iv p0_3, iv p0_4, iv p0_5, iv (4 : Int32), .val (.long (cp.toInt64)), .second, iv (2 : Int32), rv b298, rv b_396] [(.int (if ((nar .byte (p0_1.toInt8.toInt32)) &&& (255 : Int32)) = (if (1 : Int32) < (2 : Int32) then (p0_1 &&& (255 : Int32)) else ((255 : Int32) - (p0_1 &&& (255 : Int32)))) then (1 : Int32) else (0 : Int32)))])) _
        rw [q408]
        show Steps p.tables e below (T406.setTop (mkF m 148 #[iv p0_0, iv p0_1, iv p0_2, iv p0_3, iv p0_4, iv p0_5, iv (4 : Int32), .val (.long (cp.toInt64)), .second, iv (2 : Int32), rv b298, rv b_396] [(.int (1 : Int32))])) _
        show Steps p.tables e below (T406.setTop (mkF m 148 #[iv p0_0, iv p0_1, iv p0_2, iv p0_3, iv p0_4, iv p0_5, iv (4 : Int32), .val (.long (cp.toInt64)), .second, iv (2 : Int32), rv b298, rv b_396] [(.int (1 : Int32))])) _
        refine XS.ifNo X406.here hx rfl (hb hby at_148) rfl ((if0 _ _).trans (feq (by decide : ¬ ((1 : Int32) = (0 : Int32)))).1) ?_
        refine XS.iload X406.here hx rfl (hb hby at_151) rfl ?_
        refine XS.iconst X406.here hx rfl (hb hby at_153) ?_
        refine XS.icmpNo X406.here hx rfl (hb hby at_154) rfl (flt (by decide : ¬ ((4 : Int32) < (3 : Int32)))).1 ?_
        show Steps p.tables e below (T406.setTop (mkF m 157 #[iv p0_0, iv p0_1, iv p0_2, iv p0_3, iv p0_4, iv p0_5, iv (4 : Int32), .val (.long (cp.toInt64)), .second, iv (2 : Int32), rv b298, rv b_396] [])) _
        refine XS.aload X406.here hx rfl (hb hby at_157) rfl rfl ?_
        refine XS.iconst X406.here hx rfl (hb hby at_159) ?_
        refine XS.iloadN X406.here hx rfl (hb hby at_160) rfl ?_
        refine XS.iload X406.here hx rfl (hb hby at_161) rfl ?_
        show Steps p.tables e below (T406.setTop (mkF m 163 #[iv p0_0, iv p0_1, iv p0_2, iv p0_3, iv p0_4, iv p0_5, iv (4 : Int32), .val (.long (cp.toInt64)), .second, iv (2 : Int32), rv b298, rv b_396] [(.int (2 : Int32)), (.int p0_2), (.int (2 : Int32)), (.ref b_396)])) _
        refine st409 _ ?_
        show Steps p.tables e below (T409.setTop (mkF m 166 #[iv p0_0, iv p0_1, iv p0_2, iv p0_3, iv p0_4, iv p0_5, iv (4 : Int32), .val (.long (cp.toInt64)), .second, iv (2 : Int32), rv b298, rv b_396] [(.int (if ((nar .byte (((nar .byte (p0_2.toInt8.toInt32)) ^^^ (-1 : Int32)).toInt8.toInt32)) &&& (255 : Int32)) = (if (2 : Int32) < (2 : Int32) then (p0_2 &&& (255 : Int32)) else ((255 : Int32) - (p0_2 &&& (255 : Int32)))) then (1 : Int32) else (0 : Int32)))])) _
        rw [q411]
        show Steps p.tables e below (T409.setTop (mkF m 166 #[iv p0_0, iv p0_1, iv p0_2, iv p0_3, iv p0_4, iv p0_5, iv (4 : Int32), .val (.long (cp.toInt64)), .second, iv (2 : Int32), rv b298, rv b_396] [(.int (1 : Int32))])) _
        show Steps p.tables e below (T409.setTop (mkF m 166 #[iv p0_0, iv p0_1, iv p0_2, iv p0_3, iv p0_4, iv p0_5, iv (4 : Int32), .val (.long (cp.toInt64)), .second, iv (2 : Int32), rv b298, rv b_396] [(.int (1 : Int32))])) _
        refine XS.ifNo X409.here hx rfl (hb hby at_166) rfl ((if0 _ _).trans (feq (by decide : ¬ ((1 : Int32) = (0 : Int32)))).1) ?_
        show Steps p.tables e below (T409.setTop (mkF m 169 #[iv p0_0, iv p0_1, iv p0_2, iv p0_3, iv p0_4, iv p0_5, iv (4 : Int32), .val (.long (cp.toInt64)), .second, iv (2 : Int32), rv b298, rv b_396] [])) _
        refine XS.iload X409.here hx rfl (hb hby at_169) rfl ?_
        refine XS.iconst X409.here hx rfl (hb hby at_171) ?_
        refine XS.icmpNo X409.here hx rfl (hb hby at_172) rfl (flt (by decide : ¬ ((4 : Int32) < (4 : Int32)))).1 ?_
        refine XS.aload X409.here hx rfl (hb hby at_175) rfl rfl ?_
        show Steps p.tables e below (T409.setTop (mkF m 177 #[iv p0_0, iv p0_1, iv p0_2, iv p0_3, iv p0_4, iv p0_5, iv (4 : Int32), .val (.long (cp.toInt64)), .second, iv (2 : Int32), rv b298, rv b_396] [(.ref b_396)])) _
        refine XS.iconst X409.here hx rfl (hb hby at_177) ?_
        refine XS.iloadN X409.here hx rfl (hb hby at_178) rfl ?_
        refine XS.iload X409.here hx rfl (hb hby at_179) rfl ?_
        show Steps p.tables e below (T409.setTop (mkF m 181 #[iv p0_0, iv p0_1, iv p0_2, iv p0_3, iv p0_4, iv p0_5, iv (4 : Int32), .val (.long (cp.toInt64)), .second, iv (2 : Int32), rv b298, rv b_396] [(.int (2 : Int32)), (.int p0_3), (.int (3 : Int32)), (.ref b_396)])) _
        refine st412 _ ?_
        show Steps p.tables e below (T412.setTop (mkF m 184 #[iv p0_0, iv p0_1, iv p0_2, iv p0_3, iv p0_4, iv p0_5, iv (4 : Int32), .val (.long (cp.toInt64)), .second, iv (2 : Int32), rv b298, rv b_396] [(.int (if ((nar .byte (((nar .byte (p0_3.toInt8.toInt32)) ^^^ (-1 : Int32)).toInt8.toInt32)) &&& (255 : Int32)) = (if (3 : Int32) < (2 : Int32) then (p0_3 &&& (255 : Int32)) else ((255 : Int32) - (p0_3 &&& (255 : Int32)))) then (1 : Int32) else (0 : Int32)))])) _
        rw [q414]
        show Steps p.tables e below (T412.setTop (mkF m 184 #[iv p0_0, iv p0_1, iv p0_2, iv p0_3, iv p0_4, iv p0_5, iv (4 : Int32), .val (.long (cp.toInt64)), .second, iv (2 : Int32), rv b298, rv b_396] [(.int (1 : Int32))])) _
        show Steps p.tables e below (T412.setTop (mkF m 184 #[iv p0_0, iv p0_1, iv p0_2, iv p0_3, iv p0_4, iv p0_5, iv (4 : Int32), .val (.long (cp.toInt64)), .second, iv (2 : Int32), rv b298, rv b_396] [(.int (1 : Int32))])) _
        refine XS.ifNo X412.here hx rfl (hb hby at_184) rfl ((if0 _ _).trans (feq (by decide : ¬ ((1 : Int32) = (0 : Int32)))).1) ?_
        refine XS.iconst X412.here hx rfl (hb hby at_187) ?_
        show Steps p.tables e below (T412.setTop (mkF m 188 #[iv p0_0, iv p0_1, iv p0_2, iv p0_3, iv p0_4, iv p0_5, iv (4 : Int32), .val (.long (cp.toInt64)), .second, iv (2 : Int32), rv b298, rv b_396] [(.int (1 : Int32))])) _
        refine XS.goto X412.here hx rfl (pc0 := 188) (pc' := 192) rfl (hb hby at_188) (by decide) (by decide) ?_
        show Steps p.tables e below (T412.setTop (mkF m 192 #[iv p0_0, iv p0_1, iv p0_2, iv p0_3, iv p0_4, iv p0_5, iv (4 : Int32), .val (.long (cp.toInt64)), .second, iv (2 : Int32), rv b298, rv b_396] [(.int (1 : Int32))])) _
        exact retN X412 hx (t := .boolean) Bd.returns (by simp) (hb hby at_192) hr
      · show Q_rm0 Z _ _ _ _ _ _ h0 n0 _ T412.heap _
        rw [K412q]
        exact ⟨rfl, N413, (K400)⟩
    · skip
      have f416 := (Nat.le_trans f331 K330q.1)
      have f417 := (f329.keep K330q)
      obtain ⟨cq415, kq415, q415a, q415b, q415c⟩ := isOf hZ rfl f417
      obtain ⟨_, _, ⟨T415, L415, k415, n415⟩, -, X415, ⟨Lc415, hQ415, l415, y415, z415⟩, st415⟩ := X330.virtualBack hx (y := MN9) (z := MN9) hown (mvT hZ wo43) (mvT hZ wo44) (notFace_of_selects (args := #[]) (mvT hZ wo46)) (mvT hZ wo46) (mvT hZ wo45) (by decide) (backOf (W := 0) (rm_in4_3 l Z a0 hw [] b298 ar2_330 ln2_330 (nar .byte (p0_0.toInt8.toInt32)) (nar .byte (p0_1.toInt8.toInt32)) (nar .byte (p0_2.toInt8.toInt32)) (nar .byte (p0_3.toInt8.toInt32)) (T330.heap) n0 f416 hq330_1 hq330_2 hq330_3 hq330_4 hq330_5 (hq330_6 : (4 : Int32).toInt ≤ ln2_330.toInt)) hZ wo47 wo3 (by decide) (by decide)) q415a q415c (g := (mkF m 95 #[iv p0_0, iv p0_1, iv p0_2, iv p0_3, iv p0_4, iv p0_5, iv (4 : Int32), .val (.long (cp.toInt64)), .second, iv (3 : Int32), rv b298, .unset] [(.int (3 : Int32)), (.ref b298)])) rfl (by rw [hml]; rfl) (Steps.refl _) (argsL := [(.int (3 : Int32))]) (rest := []) (lenOf pd_2 rfl) rfl (by show 2 * 0 + _ ≤ _; exact Nat.le_of_eq rfl) (hb hby at_95) (fun _ _ => ⟨rfl, rfl, (by decide : 6 + 0 ≤ _), (by decide : 22 + 0 ≤ _)⟩)
      dsimp only [Pt.U, Pt.locs, Pt.cells, Pt.slots] at X415 l415 y415 z415 st415 hQ415
      rw [l415, y415, z415] at X415
      obtain ⟨rfl, N415q, K415q, hq415_0⟩ := hQ415
      have N418 := Fr.app N332 N415q
      have K419 : Keep h0 T415.heap [] := (K333).trans K415q (allS (P := fun x => x ∈ [] ∨ h0.size ≤ x) (Or.inr bz334) all0)
      have f420 := (hq330_3.keep K415q (ninS hq330_2 nin0))
      have f421 := (hq330_4.keep K415q (ninS hq330_2 nin0))
      have f423 := (Nat.le_trans f416 K415q.1)
      have f424 := (f417.keep K415q)
      obtain ⟨cq422, kq422, q422a, q422b, q422c⟩ := isOf hZ rfl f424
      obtain ⟨_, _, ⟨T422, L422, k422, n422⟩, -, X422, ⟨Lc422, hQ422, l422, y422, z422⟩, st422⟩ := X415.virtualBack hx (y := MN10) (z := MN10) hown (mvT hZ wo48) (mvT hZ wo49) (notFace_of_selects (args := #[]) (mvT hZ wo51)) (mvT hZ wo51) (mvT hZ wo50) (by decide) (backOf (W := 0) (rm_tb4 l Z a0 hw [] b298 ar2_330 ln2_330 (nar .byte (p0_0.toInt8.toInt32)) (nar .byte (p0_1.toInt8.toInt32)) (nar .byte (p0_2.toInt8.toInt32)) (nar .byte (((nar .byte (p0_3.toInt8.toInt32)) ^^^ (-1 : Int32)).toInt8.toInt32)) (T415.heap) n0 f423 f420 f421 hq415_0 (hq330_6 : (4 : Int32).toInt ≤ ln2_330.toInt)) hZ wo52 wo3 (by decide) (by decide)) q422a q422c (g := (mkF m 100 #[iv p0_0, iv p0_1, iv p0_2, iv p0_3, iv p0_4, iv p0_5, iv (4 : Int32), .val (.long (cp.toInt64)), .second, iv (3 : Int32), rv b298, .unset] [(.ref b298)])) rfl (by rw [hml]; rfl) (Steps.refl _) (argsL := []) (rest := []) (lenOf pd_1 rfl) rfl (by show 2 * 0 + _ ≤ _; exact Nat.le_of_eq rfl) (hb hby at_100) (fun _ _ => ⟨rfl, rfl, (by decide : 6 + 1 ≤ _), (by decide : 22 + 4 ≤ _)⟩)
      dsimp only [Pt.U, Pt.locs, Pt.cells, Pt.slots] at X422 l422 y422 z422 st422 hQ422
      rw [l422, y422, z422] at X422
      obtain ⟨b_422, rfl, N422q, K422q, hq422_0⟩ := hQ422
      have N425 := Fr.app N418 N422q
      have K426 : Keep h0 T422.heap [] := (K419).trans K422q all0
      obtain ⟨kk427, cl427, Ar427, qq427, Sz427, Nn427, Hs427, Gf427⟩ := id hq422_0
      have f429 := (Nat.le_trans f423 K422q.1)
      obtain ⟨_, _, ⟨T428, L428, k428, n428⟩, -, X428, ⟨Lc428, hQ428, l428, y428, z428⟩, st428⟩ := Jvm.LawKit.callS X422 hx (y := MN11) hown (mvT hZ wo53) (mvT hZ wo54) (mvT hZ wo55) (mvT hZ wo56) (by decide) (backOf (W := 0) (rm_ok4_0 l Z a0 hw [] b_422 p0_0 (3 : Int32) (nar .byte (p0_0.toInt8.toInt32)) (nar .byte (p0_1.toInt8.toInt32)) (nar .byte (p0_2.toInt8.toInt32)) (nar .byte (((nar .byte (p0_3.toInt8.toInt32)) ^^^ (-1 : Int32)).toInt8.toInt32)) (T422.heap) n0 f429 hq422_0) hZ wo56 wo55 (by decide) (by decide)) (g := (mkF m 127 #[iv p0_0, iv p0_1, iv p0_2, iv p0_3, iv p0_4, iv p0_5, iv (4 : Int32), .val (.long (cp.toInt64)), .second, iv (3 : Int32), rv b298, rv b_422] [(.int (3 : Int32)), (.int p0_0), (.int (0 : Int32)), (.ref b_422)])) rfl (by rw [hml]; rfl) (argsL := [(.ref b_422), (.int (0 : Int32)), (.int p0_0), (.int (3 : Int32))]) (rest := []) (lenOf pd_8 rfl) rfl (by show 2 * 0 + _ ≤ _; exact Nat.le_of_eq rfl) (hb hby at_127) (fun _ _ => ⟨rfl, rfl, (by decide : 7 + 0 ≤ _), (by decide : 26 + 0 ≤ _)⟩)
      dsimp only [Pt.U, Pt.locs, Pt.cells, Pt.slots] at X428 l428 y428 z428 st428 hQ428
      rw [l428, y428, z428] at X428
      obtain ⟨rfl, N428q, K428q⟩ := hQ428
      have N430 := Fr.app N425 N428q
      have q431 : (if ((nar .byte (p0_0.toInt8.toInt32)) &&& (255 : Int32)) = (if (0 : Int32) < (3 : Int32) then (p0_0 &&& (255 : Int32)) else ((255 : Int32) - (p0_0 &&& (255 : Int32)))) then (1 : Int32) else (0 : Int32)) = (1 : Int32) := if_pos ((own_k1 _).trans (if_pos (by decide)).symm)
      obtain ⟨_, _, ⟨T432, L432, k432, n432⟩, -, X432, ⟨Lc432, hQ432, l432, y432, z432⟩, st432⟩ := Jvm.LawKit.callS X428 hx (y := MN11) hown (mvT hZ wo53) (mvT hZ wo54) (mvT hZ wo55) (mvT hZ wo56) (by decide) (backOf (W := 0) (rm_ok4_1 l Z a0 hw [] b_422 p0_1 (3 : Int32) (nar .byte (p0_0.toInt8.toInt32)) (nar .byte (p0_1.toInt8.toInt32)) (nar .byte (p0_2.toInt8.toInt32)) (nar .byte (((nar .byte (p0_3.toInt8.toInt32)) ^^^ (-1 : Int32)).toInt8.toInt32)) (T422.heap) n0 f429 hq422_0) hZ wo56 wo55 (by decide) (by decide)) (g := (mkF m 145 #[iv p0_0, iv p0_1, iv p0_2, iv p0_3, iv p0_4, iv p0_5, iv (4 : Int32), .val (.long (cp.toInt64)), .second, iv (3 : Int32), rv b298, rv b_422] [(.int (3 : Int32)), (.int p0_1), (.int (1 : Int32)), (.ref b_422)])) rfl (by rw [hml]; rfl) (argsL := [(.ref b_422), (.int (1 : Int32)), (.int p0_1), (.int (3 : Int32))]) (rest := []) (lenOf pd_8 rfl) rfl (by show 2 * 0 + _ ≤ _; exact Nat.le_of_eq rfl) (hb hby at_145) (fun _ _ => ⟨rfl, K428q, (by decide : 7 + 0 ≤ _), (by decide : 26 + 0 ≤ _)⟩)
      dsimp only [Pt.U, Pt.locs, Pt.cells, Pt.slots] at X432 l432 y432 z432 st432 hQ432
      rw [l432, y432, z432] at X432
      obtain ⟨rfl, N432q, K432q⟩ := hQ432
      have N433 := Fr.app N430 N432q
      have q434 : (if ((nar .byte (p0_1.toInt8.toInt32)) &&& (255 : Int32)) = (if (1 : Int32) < (3 : Int32) then (p0_1 &&& (255 : Int32)) else ((255 : Int32) - (p0_1 &&& (255 : Int32)))) then (1 : Int32) else (0 : Int32)) = (1 : Int32) := if_pos ((own_k1 _).trans (if_pos (by decide)).symm)
      obtain ⟨_, _, ⟨T435, L435, k435, n435⟩, -, X435, ⟨Lc435, hQ435, l435, y435, z435⟩, st435⟩ := Jvm.LawKit.callS X432 hx (y := MN11) hown (mvT hZ wo53) (mvT hZ wo54) (mvT hZ wo55) (mvT hZ wo56) (by decide) (backOf (W := 0) (rm_ok4_2 l Z a0 hw [] b_422 p0_2 (3 : Int32) (nar .byte (p0_0.toInt8.toInt32)) (nar .byte (p0_1.toInt8.toInt32)) (nar .byte (p0_2.toInt8.toInt32)) (nar .byte (((nar .byte (p0_3.toInt8.toInt32)) ^^^ (-1 : Int32)).toInt8.toInt32)) (T422.heap) n0 f429 hq422_0) hZ wo56 wo55 (by decide) (by decide)) (g := (mkF m 163 #[iv p0_0, iv p0_1, iv p0_2, iv p0_3, iv p0_4, iv p0_5, iv (4 : Int32), .val (.long (cp.toInt64)), .second, iv (3 : Int32), rv b298, rv b_422] [(.int (3 : Int32)), (.int p0_2), (.int (2 : Int32)), (.ref b_422)])) rfl (by rw [hml]; rfl) (argsL := [(.ref b_422), (.int (2 : Int32)), (.int p0_2), (.int (3 : Int32))]) (rest := []) (lenOf pd_8 rfl) rfl (by show 2 * 0 + _ ≤ _; exact Nat.le_of_eq rfl) (hb hby at_163) (fun _ _ => ⟨rfl, K432q, (by decide : 7 + 0 ≤ _), (by decide : 26 + 0 ≤ _)⟩)
      dsimp only [Pt.U, Pt.locs, Pt.cells, Pt.slots] at X435 l435 y435 z435 st435 hQ435
      rw [l435, y435, z435] at X435
      obtain ⟨rfl, N435q, K435q⟩ := hQ435
      have N436 := Fr.app N433 N435q
      have q437 : (if ((nar .byte (p0_2.toInt8.toInt32)) &&& (255 : Int32)) = (if (2 : Int32) < (3 : Int32) then (p0_2 &&& (255 : Int32)) else ((255 : Int32) - (p0_2 &&& (255 : Int32)))) then (1 : Int32) else (0 : Int32)) = (1 : Int32) := if_pos ((own_k1 _).trans (if_pos (by decide)).symm)
      obtain ⟨_, _, ⟨T438, L438, k438, n438⟩, -, X438, ⟨Lc438, hQ438, l438, y438, z438⟩, st438⟩ := Jvm.LawKit.callS X435 hx (y := MN11) hown (mvT hZ wo53) (mvT hZ wo54) (mvT hZ wo55) (mvT hZ wo56) (by decide) (backOf (W := 0) (rm_ok4_3 l Z a0 hw [] b_422 p0_3 (3 : Int32) (nar .byte (p0_0.toInt8.toInt32)) (nar .byte (p0_1.toInt8.toInt32)) (nar .byte (p0_2.toInt8.toInt32)) (nar .byte (((nar .byte (p0_3.toInt8.toInt32)) ^^^ (-1 : Int32)).toInt8.toInt32)) (T422.heap) n0 f429 hq422_0) hZ wo56 wo55 (by decide) (by decide)) (g := (mkF m 181 #[iv p0_0, iv p0_1, iv p0_2, iv p0_3, iv p0_4, iv p0_5, iv (4 : Int32), .val (.long (cp.toInt64)), .second, iv (3 : Int32), rv b298, rv b_422] [(.int (3 : Int32)), (.int p0_3), (.int (3 : Int32)), (.ref b_422)])) rfl (by rw [hml]; rfl) (argsL := [(.ref b_422), (.int (3 : Int32)), (.int p0_3), (.int (3 : Int32))]) (rest := []) (lenOf pd_8 rfl) rfl (by show 2 * 0 + _ ≤ _; exact Nat.le_of_eq rfl) (hb hby at_181) (fun _ _ => ⟨rfl, K435q, (by decide : 7 + 0 ≤ _), (by decide : 26 + 0 ≤ _)⟩)
      dsimp only [Pt.U, Pt.locs, Pt.cells, Pt.slots] at X438 l438 y438 z438 st438 hQ438
      rw [l438, y438, z438] at X438
      obtain ⟨rfl, N438q, K438q⟩ := hQ438
      have N439 := Fr.app N436 N438q
      have q440 : (if ((nar .byte (((nar .byte (p0_3.toInt8.toInt32)) ^^^ (-1 : Int32)).toInt8.toInt32)) &&& (255 : Int32)) = (if (3 : Int32) < (3 : Int32) then (p0_3 &&& (255 : Int32)) else ((255 : Int32) - (p0_3 &&& (255 : Int32)))) then (1 : Int32) else (0 : Int32)) = (1 : Int32) := if_pos ((own_k2 _).trans (if_neg (by decide)).symm)
      obtain ⟨fs, hr, hrun, hended, hW, hsame⟩ := X438.leave (v := some (.int (1 : Int32))) (fun h => by rw [Bd.returns] at h; cases h)
      refine ⟨_, _, pre335 _ ?_, hrun, hended, _, _, rfl, ?_, ⟨_, rfl⟩, hW, hsame.mono (by decide) (by decide)⟩
      · show Steps p.tables e below (T330.setTop (mkF m 93 #[iv p0_0, iv p0_1, iv p0_2, iv p0_3, iv p0_4, iv p0_5, iv (4 : Int32), .val (.long (cp.toInt64)), .second, iv (3 : Int32), rv b298, .unset] [(.ref b298)])) _
        refine XS.iload X330.here hx rfl (hb hby at_93) rfl ?_
        show Steps p.tables e below (T330.setTop (mkF m 95 #[iv p0_0, iv p0_1, iv p0_2, iv p0_3, iv p0_4, iv p0_5, iv (4 : Int32), .val (.long (cp.toInt64)), .second, iv (3 : Int32), rv b298, .unset] [(.int (3 : Int32)), (.ref b298)])) _
        refine st415.trans ?_
        show Steps p.tables e below (T415.setTop (mkF m 98 #[iv p0_0, iv p0_1, iv p0_2, iv p0_3, iv p0_4, iv p0_5, iv (4 : Int32), .val (.long (cp.toInt64)), .second, iv (3 : Int32), rv b298, .unset] [])) _
        refine XS.aload X415.here hx rfl (hb hby at_98) rfl rfl ?_
        show Steps p.tables e below (T415.setTop (mkF m 100 #[iv p0_0, iv p0_1, iv p0_2, iv p0_3, iv p0_4, iv p0_5, iv (4 : Int32), .val (.long (cp.toInt64)), .second, iv (3 : Int32), rv b298, .unset] [(.ref b298)])) _
        refine st422.trans ?_
        show Steps p.tables e below (T422.setTop (mkF m 103 #[iv p0_0, iv p0_1, iv p0_2, iv p0_3, iv p0_4, iv p0_5, iv (4 : Int32), .val (.long (cp.toInt64)), .second, iv (3 : Int32), rv b298, .unset] [(.ref b_422)])) _
        refine XS.astore X422.here hx rfl (hb hby at_103) rfl rfl (l' := #[iv p0_0, iv p0_1, iv p0_2, iv p0_3, iv p0_4, iv p0_5, iv (4 : Int32), .val (.long (cp.toInt64)), .second, iv (3 : Int32), rv b298, rv b_422]) rfl ?_
        refine XS.aload X422.here hx rfl (hb hby at_105) rfl rfl ?_
        show Steps p.tables e below (T422.setTop (mkF m 107 #[iv p0_0, iv p0_1, iv p0_2, iv p0_3, iv p0_4, iv p0_5, iv (4 : Int32), .val (.long (cp.toInt64)), .second, iv (3 : Int32), rv b298, rv b_422] [(.ref b_422)])) _
        refine X422.arraylength hx (Ar427.1) (State.isArrayOf_alike hZ.alike Ar427.2.1) (g := (mkF m 107 #[iv p0_0, iv p0_1, iv p0_2, iv p0_3, iv p0_4, iv p0_5, iv (4 : Int32), .val (.long (cp.toInt64)), .second, iv (3 : Int32), rv b298, rv b_422] [(.ref b_422)])) rfl rfl (hb hby at_107) _ ?_
        rw [len_of Sz427 Nn427]
        show Steps p.tables e below (T422.setTop (mkF m 108 #[iv p0_0, iv p0_1, iv p0_2, iv p0_3, iv p0_4, iv p0_5, iv (4 : Int32), .val (.long (cp.toInt64)), .second, iv (3 : Int32), rv b298, rv b_422] [(.int (4 : Int32))])) _
        refine XS.iload X422.here hx rfl (hb hby at_108) rfl ?_
        refine XS.icmpYes X422.here hx rfl (pc0 := 110) (pc' := 115) rfl (hb hby at_110) rfl (teq (by decide : (4 : Int32) = (4 : Int32))).1 (by decide) (by decide) ?_
        refine XS.iload X422.here hx rfl (hb hby at_115) rfl ?_
        refine XS.iconst X422.here hx rfl (hb hby at_117) ?_
        show Steps p.tables e below (T422.setTop (mkF m 118 #[iv p0_0, iv p0_1, iv p0_2, iv p0_3, iv p0_4, iv p0_5, iv (4 : Int32), .val (.long (cp.toInt64)), .second, iv (3 : Int32), rv b298, rv b_422] [(.int (1 : Int32)), (.int (4 : Int32))])) _
        refine XS.icmpNo X422.here hx rfl (hb hby at_118) rfl (flt (by decide : ¬ ((4 : Int32) < (1 : Int32)))).1 ?_
        refine XS.aload X422.here hx rfl (hb hby at_121) rfl rfl ?_
        refine XS.iconst X422.here hx rfl (hb hby at_123) ?_
        refine XS.iloadN X422.here hx rfl (hb hby at_124) rfl ?_
        show Steps p.tables e below (T422.setTop (mkF m 125 #[iv p0_0, iv p0_1, iv p0_2, iv p0_3, iv p0_4, iv p0_5, iv (4 : Int32), .val (.long (cp.toInt64)), .second, iv (3 : Int32), rv b298, rv b_422] [(.int p0_0), (.int (0 : Int32)), (.ref b_422)])) _
        refine XS.iload X422.here hx rfl (hb hby at_125) rfl ?_
        show Steps p.tables e below (T422.setTop (mkF m 127 #[iv p0_0, iv p0_1, iv p0_2, iv p0_3, iv p0_4, iv p0_5, iv (4 : Int32), .val (.long (cp.toInt64)), .second, iv (3 : Int32), rv b298, rv b_422] [(.int (3 : Int32)), (.int p0_0), (.int (0 : Int32)), (.ref b_422)])) _
        refine st428 _ ?_
        show Steps p.tables e below (T428.setTop (mkF m 130 #[iv p0_0, iv p0_1, iv p0_2, iv p0_3, iv p0_4, iv p0_5, iv (4 : Int32), .val (.long (cp.toInt64)), .second, iv (3 : Int32), rv b298, rv b_422] [(.int (if ((nar .byte (p0_0.toInt8.toInt32)) &&& (255 : Int32)) = (if (0 : Int32) < (3 : Int32) then (p0_0 &&& (255 : Int32)) else ((255 : Int32) - (p0_0 &&& (255 : Int32)))) then (1 : Int32) else (0 : Int32)))])) _
        rw [q431]
        show Steps p.tables e below (T428.setTop (mkF m 130 #[iv p0_0, iv p0_1, iv p0_2, iv p0_3, iv p0_4, iv p0_5, iv (4 : Int32), .val (.long (cp.toInt64)), .second, iv (3 : Int32), rv b298, rv b_422] [(.int (1 : Int32))])) _
        show Steps p.tables e below (T428.setTop (mkF m 130 #[iv p0_0, iv p0_1, iv p0_2, iv p0_3, iv p0_4, iv p0_5, iv (4 : Int32), .val (.long (cp.toInt64)), .second, iv (3 : Int32), rv b298, rv b_422] [(.int (1 : Int32))])) _
        refine XS.ifNo X428.here hx rfl (hb hby at_130) rfl ((if0 _ _).trans (feq (by decide : ¬ ((1 : Int32) = (0 : Int32)))).1) ?_
        refine XS.iload X428.here hx rfl (hb hby at_133) rfl ?_
        refine XS.iconst X428.here hx rfl (hb hby at_135) ?_
        refine XS.icmpNo X428.here hx rfl (hb hby at_136) rfl (flt (by decide : ¬ ((4 : Int32) < (2 : Int32)))).1 ?_
        show Steps p.tables e below (T428.setTop (mkF m 139 #[iv p0_0, iv p0_1, iv p0_2, iv p0_3, iv p0_4, iv p0_5, iv (4 : Int32), .val (.long (cp.toInt64)), .second, iv (3 : Int32), rv b298, rv b_422] [])) _
        refine XS.aload X428.here hx rfl (hb hby at_139) rfl rfl ?_
        refine XS.iconst X428.here hx rfl (hb hby at_141) ?_
        refine XS.iloadN X428.here hx rfl (hb hby at_142) rfl ?_
        refine XS.iload X428.here hx rfl (hb hby at_143) rfl ?_
        show Steps p.tables e below (T428.setTop (mkF m 145 #[iv p0_0, iv p0_1, iv p0_2, iv p0_3, iv p0_4, iv p0_5, iv (4 : Int32), .val (.long (cp.toInt64)), .second, iv (3 : Int32), rv b298, rv b_422] [(.int (3 : Int32)), (.int p0_1), (.int (1 : Int32)), (.ref b_422)])) _
        refine st432 _ ?_
        show Steps p.tables e below (T432.setTop (mkF m 148 #[iv p0_0, iv p0_1, iv p0_2, iv p0_3, iv p0_4, iv p0_5, iv (4 : Int32), .val (.long (cp.toInt64)), .second, iv (3 : Int32), rv b298, rv b_422] [(.int (if ((nar .byte (p0_1.toInt8.toInt32)) &&& (255 : Int32)) = (if (1 : Int32) < (3 : Int32) then (p0_1 &&& (255 : Int32)) else ((255 : Int32) - (p0_1 &&& (255 : Int32)))) then (1 : Int32) else (0 : Int32)))])) _
        rw [q434]
        show Steps p.tables e below (T432.setTop (mkF m 148 #[iv p0_0, iv p0_1, iv p0_2, iv p0_3, iv p0_4, iv p0_5, iv (4 : Int32), .val (.long (cp.toInt64)), .second, iv (3 : Int32), rv b298, rv b_422] [(.int (1 : Int32))])) _
        show Steps p.tables e below (T432.setTop (mkF m 148 #[iv p0_0, iv p0_1, iv p0_2, iv p0_3, iv p0_4, iv p0_5, iv (4 : Int32), .val (.long (cp.toInt64)), .second, iv (3 : Int32), rv b298, rv b_422] [(.int (1 : Int32))])) _
        refine XS.ifNo X432.here hx rfl (hb hby at_148) rfl ((if0 _ _).trans (feq (by decide : ¬ ((1 : Int32) = (0 : Int32)))).1) ?_
        show Steps p.tables e below (T432.setTop (mkF m 151 #[iv p0_0, iv p0_1, iv p0_2, iv p0_3, iv p0_4, iv p0_5, iv (4 : Int32), .val (.long (cp.toInt64)), .second, iv (3 : Int32), rv b298, rv b_422] [])) _
        refine XS.iload X432.here hx rfl (hb hby at_151) rfl ?_
        refine XS.iconst X432.here hx rfl (hb hby at_153) ?_
        refine XS.icmpNo X432.here hx rfl (hb hby at_154) rfl (flt (by decide : ¬ ((4 : Int32) < (3 : Int32)))).1 ?_
        refine XS.aload X432.here hx rfl (hb hby at_157) rfl rfl ?_
        show Steps p.tables e below (T432.setTop (mkF m 159 #[iv p0_0, iv p0_1, iv p0_2, iv p0_3, iv p0_4, iv p0_5, iv (4 : Int32), .val (.long (cp.toInt64)), .second, iv (3 : Int32), rv b298, rv b_422] [(.ref b_422)])) _
        refine XS.iconst X432.here hx rfl (hb hby at_159) ?_
        refine XS.iloadN X432.here hx rfl (hb hby at_160) rfl ?_
        refine XS.iload X432.here hx rfl (hb hby at_161) rfl ?_
        show Steps p.tables e below (T432.setTop (mkF m 163 #[iv p0_0, iv p0_1, iv p0_2, iv p0_3, iv p0_4, iv p0_5, iv (4 : Int32), .val (.long (cp.toInt64)), .second, iv (3 : Int32), rv b298, rv b_422] [(.int (3 : Int32)), (.int p0_2), (.int (2 : Int32)), (.ref b_422)])) _
        refine st435 _ ?_
        show Steps p.tables e below (T435.setTop (mkF m 166 #[iv p0_0, iv p0_1, iv p0_2, iv p0_3, iv p0_4, iv p0_5, iv (4 : Int32), .val (.long (cp.toInt64)), .second, iv (3 : Int32), rv b298, rv b_422] [(.int (if ((nar .byte (p0_2.toInt8.toInt32)) &&& (255 : Int32)) = (if (2 : Int32) < (3 : Int32) then (p0_2 &&& (255 : Int32)) else ((255 : Int32) - (p0_2 &&& (255 : Int32)))) then (1 : Int32) else (0 : Int32)))])) _
        rw [q437]
        show Steps p.tables e below (T435.setTop (mkF m 166 #[iv p0_0, iv p0_1, iv p0_2, iv p0_3, iv p0_4, iv p0_5, iv (4 : Int32), .val (.long (cp.toInt64)), .second, iv (3 : Int32), rv b298, rv b_422] [(.int (1 : Int32))])) _
        show Steps p.tables e below (T435.setTop (mkF m 166 #[iv p0_0, iv p0_1, iv p0_2, iv p0_3, iv p0_4, iv p0_5, iv (4 : Int32), .val (.long (cp.toInt64)), .second, iv (3 : Int32), rv b298, rv b_422] [(.int (1 : Int32))])) _
        refine XS.ifNo X435.here hx rfl (hb hby at_166) rfl ((if0 _ _).trans (feq (by decide : ¬ ((1 : Int32) = (0 : Int32)))).1) ?_
        refine XS.iload X435.here hx rfl (hb hby at_169) rfl ?_
        show Steps p.tables e below (T435.setTop (mkF m 171 #[iv p0_0, iv p0_1, iv p0_2, iv p0_3, iv p0_4, iv p0_5, iv (4 : Int32), .val (.long (cp.toInt64)), .second, iv (3 : Int32), rv b298, rv b_422] [(.int (4 : Int32))])) _
        refine XS.iconst X435.here hx rfl (hb hby at_171) ?_
        refine XS.icmpNo X435.here hx rfl (hb hby at_172) rfl (flt (by decide : ¬ ((4 : Int32) < (4 : Int32)))).1 ?_
        refine XS.aload X435.here hx rfl (hb hby at_175) rfl rfl ?_
        refine XS.iconst X435.here hx rfl (hb hby at_177) ?_
        show Steps p.tables e below (T435.setTop (mkF m 178 #[iv p0_0, iv p0_1, iv p0_2, iv p0_3, iv p0_4, iv p0_5, iv (4 : Int32), .val (.long (cp.toInt64)), .second, iv (3 : Int32), rv b298, rv b_422] [(.int (3 : Int32)), (.ref b_422)])) _
        refine XS.iloadN X435.here hx rfl (hb hby at_178) rfl ?_
        refine XS.iload X435.here hx rfl (hb hby at_179) rfl ?_
        show Steps p.tables e below (T435.setTop (mkF m 181 #[iv p0_0, iv p0_1, iv p0_2, iv p0_3, iv p0_4, iv p0_5, iv (4 : Int32), .val (.long (cp.toInt64)), .second, iv (3 : Int32), rv b298, rv b_422] [(.int (3 : Int32)), (.int p0_3), (.int (3 : Int32)), (.ref b_422)])) _
        refine st438 _ ?_
        show Steps p.tables e below (T438.setTop (mkF m 184 #[iv p0_0, iv p0_1, iv p0_2, iv p0_3, iv p0_4, iv p0_5, iv (4 : Int32), .val (.long (cp.toInt64)), .second, iv (3 : Int32), rv b298, rv b_422] [(.int (if ((nar .byte (((nar .byte (p0_3.toInt8.toInt32)) ^^^ (-1 : Int32)).toInt8.toInt32)) &&& (255 : Int32)) = (if (3 : Int32) < (3 : Int32) then (p0_3 &&& (255 : Int32)) else ((255 : Int32) - (p0_3 &&& (255 : Int32)))) then (1 : Int32) else (0 : Int32)))])) _
        rw [q440]
        show Steps p.tables e below (T438.setTop (mkF m 184 #[iv p0_0, iv p0_1, iv p0_2, iv p0_3, iv p0_4, iv p0_5, iv (4 : Int32), .val (.long (cp.toInt64)), .second, iv (3 : Int32), rv b298, rv b_422] [(.int (1 : Int32))])) _
        show Steps p.tables e below (T438.setTop (mkF m 184 #[iv p0_0, iv p0_1, iv p0_2, iv p0_3, iv p0_4, iv p0_5, iv (4 : Int32), .val (.long (cp.toInt64)), .second, iv (3 : Int32), rv b298, rv b_422] [(.int (1 : Int32))])) _
        refine XS.ifNo X438.here hx rfl (hb hby at_184) rfl ((if0 _ _).trans (feq (by decide : ¬ ((1 : Int32) = (0 : Int32)))).1) ?_
        refine XS.iconst X438.here hx rfl (hb hby at_187) ?_
        refine XS.goto X438.here hx rfl (pc0 := 188) (pc' := 192) rfl (hb hby at_188) (by decide) (by decide) ?_
        show Steps p.tables e below (T438.setTop (mkF m 192 #[iv p0_0, iv p0_1, iv p0_2, iv p0_3, iv p0_4, iv p0_5, iv (4 : Int32), .val (.long (cp.toInt64)), .second, iv (3 : Int32), rv b298, rv b_422] [(.int (1 : Int32))])) _
        exact retN X438 hx (t := .boolean) Bd.returns (by simp) (hb hby at_192) hr
      · show Q_rm0 Z _ _ _ _ _ _ h0 n0 _ T438.heap _
        rw [K438q]
        exact ⟨rfl, N439, (K426)⟩
    · skip
      have f442 := (Nat.le_trans f331 K330q.1)
      have f443 := (f329.keep K330q)
      obtain ⟨cq441, kq441, q441a, q441b, q441c⟩ := isOf hZ rfl f443
      obtain ⟨_, _, ⟨T441, L441, k441, n441⟩, -, X441, ⟨Lc441, hQ441, l441, y441, z441⟩, st441⟩ := X330.virtualBack hx (y := MN9) (z := MN9) hown (mvT hZ wo43) (mvT hZ wo44) (notFace_of_selects (args := #[]) (mvT hZ wo46)) (mvT hZ wo46) (mvT hZ wo45) (by decide) (backOf (W := 0) (rm_in4_4 l Z a0 hw [] b298 ar2_330 ln2_330 (nar .byte (p0_0.toInt8.toInt32)) (nar .byte (p0_1.toInt8.toInt32)) (nar .byte (p0_2.toInt8.toInt32)) (nar .byte (p0_3.toInt8.toInt32)) (T330.heap) n0 f442 hq330_1 hq330_2 hq330_3 hq330_4 hq330_5 (hq330_6 : (4 : Int32).toInt ≤ ln2_330.toInt)) hZ wo47 wo3 (by decide) (by decide)) q441a q441c (g := (mkF m 95 #[iv p0_0, iv p0_1, iv p0_2, iv p0_3, iv p0_4, iv p0_5, iv (4 : Int32), .val (.long (cp.toInt64)), .second, iv (4 : Int32), rv b298, .unset] [(.int (4 : Int32)), (.ref b298)])) rfl (by rw [hml]; rfl) (Steps.refl _) (argsL := [(.int (4 : Int32))]) (rest := []) (lenOf pd_2 rfl) rfl (by show 2 * 0 + _ ≤ _; exact Nat.le_of_eq rfl) (hb hby at_95) (fun _ _ => ⟨rfl, rfl, (by decide : 6 + 0 ≤ _), (by decide : 22 + 0 ≤ _)⟩)
      dsimp only [Pt.U, Pt.locs, Pt.cells, Pt.slots] at X441 l441 y441 z441 st441 hQ441
      rw [l441, y441, z441] at X441
      obtain ⟨rfl, N441q, K441q, hq441_0⟩ := hQ441
      have N444 := Fr.app N332 N441q
      have K445 : Keep h0 T441.heap [] := (K333).trans K441q (allS (P := fun x => x ∈ [] ∨ h0.size ≤ x) (Or.inr bz334) all0)
      have f446 := (hq330_3.keep K441q (ninS hq330_2 nin0))
      have f447 := (hq330_4.keep K441q (ninS hq330_2 nin0))
      have f449 := (Nat.le_trans f442 K441q.1)
      have f450 := (f443.keep K441q)
      obtain ⟨cq448, kq448, q448a, q448b, q448c⟩ := isOf hZ rfl f450
      obtain ⟨_, _, ⟨T448, L448, k448, n448⟩, -, X448, ⟨Lc448, hQ448, l448, y448, z448⟩, st448⟩ := X441.virtualBack hx (y := MN10) (z := MN10) hown (mvT hZ wo48) (mvT hZ wo49) (notFace_of_selects (args := #[]) (mvT hZ wo51)) (mvT hZ wo51) (mvT hZ wo50) (by decide) (backOf (W := 0) (rm_tb4 l Z a0 hw [] b298 ar2_330 ln2_330 (nar .byte (p0_0.toInt8.toInt32)) (nar .byte (p0_1.toInt8.toInt32)) (nar .byte (p0_2.toInt8.toInt32)) (nar .byte (p0_3.toInt8.toInt32)) (T441.heap) n0 f449 f446 f447 hq441_0 (hq330_6 : (4 : Int32).toInt ≤ ln2_330.toInt)) hZ wo52 wo3 (by decide) (by decide)) q448a q448c (g := (mkF m 100 #[iv p0_0, iv p0_1, iv p0_2, iv p0_3, iv p0_4, iv p0_5, iv (4 : Int32), .val (.long (cp.toInt64)), .second, iv (4 : Int32), rv b298, .unset] [(.ref b298)])) rfl (by rw [hml]; rfl) (Steps.refl _) (argsL := []) (rest := []) (lenOf pd_1 rfl) rfl (by show 2 * 0 + _ ≤ _; exact Nat.le_of_eq rfl) (hb hby at_100) (fun _ _ => ⟨rfl, rfl, (by decide : 6 + 1 ≤ _), (by decide : 22 + 4 ≤ _)⟩)
      dsimp only [Pt.U, Pt.locs, Pt.cells, Pt.slots] at X448 l448 y448 z448 st448 hQ448
      rw [l448, y448, z448] at X448
      obtain ⟨b_448, rfl, N448q, K448q, hq448_0⟩ := hQ448
      have N451 := Fr.app N444 N448q
      have K452 : Keep h0 T448.heap [] := (K445).trans K448q all0
      obtain ⟨kk453, cl453, Ar453, qq453, Sz453, Nn453, Hs453, Gf453⟩ := id hq448_0
      have f455 := (Nat.le_trans f449 K448q.1)
      obtain ⟨_, _, ⟨T454, L454, k454, n454⟩, -, X454, ⟨Lc454, hQ454, l454, y454, z454⟩, st454⟩ := Jvm.LawKit.callS X448 hx (y := MN11) hown (mvT hZ wo53) (mvT hZ wo54) (mvT hZ wo55) (mvT hZ wo56) (by decide) (backOf (W := 0) (rm_ok4_0 l Z a0 hw [] b_448 p0_0 (4 : Int32) (nar .byte (p0_0.toInt8.toInt32)) (nar .byte (p0_1.toInt8.toInt32)) (nar .byte (p0_2.toInt8.toInt32)) (nar .byte (p0_3.toInt8.toInt32)) (T448.heap) n0 f455 hq448_0) hZ wo56 wo55 (by decide) (by decide)) (g := (mkF m 127 #[iv p0_0, iv p0_1, iv p0_2, iv p0_3, iv p0_4, iv p0_5, iv (4 : Int32), .val (.long (cp.toInt64)), .second, iv (4 : Int32), rv b298, rv b_448] [(.int (4 : Int32)), (.int p0_0), (.int (0 : Int32)), (.ref b_448)])) rfl (by rw [hml]; rfl) (argsL := [(.ref b_448), (.int (0 : Int32)), (.int p0_0), (.int (4 : Int32))]) (rest := []) (lenOf pd_8 rfl) rfl (by show 2 * 0 + _ ≤ _; exact Nat.le_of_eq rfl) (hb hby at_127) (fun _ _ => ⟨rfl, rfl, (by decide : 7 + 0 ≤ _), (by decide : 26 + 0 ≤ _)⟩)
      dsimp only [Pt.U, Pt.locs, Pt.cells, Pt.slots] at X454 l454 y454 z454 st454 hQ454
      rw [l454, y454, z454] at X454
      obtain ⟨rfl, N454q, K454q⟩ := hQ454
      have N456 := Fr.app N451 N454q
      have q457 : (if ((nar .byte (p0_0.toInt8.toInt32)) &&& (255 : Int32)) = (if (0 : Int32) < (4 : Int32) then (p0_0 &&& (255 : Int32)) else ((255 : Int32) - (p0_0 &&& (255 : Int32)))) then (1 : Int32) else (0 : Int32)) = (1 : Int32) := if_pos ((own_k1 _).trans (if_pos (by decide)).symm)
      obtain ⟨_, _, ⟨T458, L458, k458, n458⟩, -, X458, ⟨Lc458, hQ458, l458, y458, z458⟩, st458⟩ := Jvm.LawKit.callS X454 hx (y := MN11) hown (mvT hZ wo53) (mvT hZ wo54) (mvT hZ wo55) (mvT hZ wo56) (by decide) (backOf (W := 0) (rm_ok4_1 l Z a0 hw [] b_448 p0_1 (4 : Int32) (nar .byte (p0_0.toInt8.toInt32)) (nar .byte (p0_1.toInt8.toInt32)) (nar .byte (p0_2.toInt8.toInt32)) (nar .byte (p0_3.toInt8.toInt32)) (T448.heap) n0 f455 hq448_0) hZ wo56 wo55 (by decide) (by decide)) (g := (mkF m 145 #[iv p0_0, iv p0_1, iv p0_2, iv p0_3, iv p0_4, iv p0_5, iv (4 : Int32), .val (.long (cp.toInt64)), .second, iv (4 : Int32), rv b298, rv b_448] [(.int (4 : Int32)), (.int p0_1), (.int (1 : Int32)), (.ref b_448)])) rfl (by rw [hml]; rfl) (argsL := [(.ref b_448), (.int (1 : Int32)), (.int p0_1), (.int (4 : Int32))]) (rest := []) (lenOf pd_8 rfl) rfl (by show 2 * 0 + _ ≤ _; exact Nat.le_of_eq rfl) (hb hby at_145) (fun _ _ => ⟨rfl, K454q, (by decide : 7 + 0 ≤ _), (by decide : 26 + 0 ≤ _)⟩)
      dsimp only [Pt.U, Pt.locs, Pt.cells, Pt.slots] at X458 l458 y458 z458 st458 hQ458
      rw [l458, y458, z458] at X458
      obtain ⟨rfl, N458q, K458q⟩ := hQ458
      have N459 := Fr.app N456 N458q
      have q460 : (if ((nar .byte (p0_1.toInt8.toInt32)) &&& (255 : Int32)) = (if (1 : Int32) < (4 : Int32) then (p0_1 &&& (255 : Int32)) else ((255 : Int32) - (p0_1 &&& (255 : Int32)))) then (1 : Int32) else (0 : Int32)) = (1 : Int32) := if_pos ((own_k1 _).trans (if_pos (by decide)).symm)
      obtain ⟨_, _, ⟨T461, L461, k461, n461⟩, -, X461, ⟨Lc461, hQ461, l461, y461, z461⟩, st461⟩ := Jvm.LawKit.callS X458 hx (y := MN11) hown (mvT hZ wo53) (mvT hZ wo54) (mvT hZ wo55) (mvT hZ wo56) (by decide) (backOf (W := 0) (rm_ok4_2 l Z a0 hw [] b_448 p0_2 (4 : Int32) (nar .byte (p0_0.toInt8.toInt32)) (nar .byte (p0_1.toInt8.toInt32)) (nar .byte (p0_2.toInt8.toInt32)) (nar .byte (p0_3.toInt8.toInt32)) (T448.heap) n0 f455 hq448_0) hZ wo56 wo55 (by decide) (by decide)) (g := (mkF m 163 #[iv p0_0, iv p0_1, iv p0_2, iv p0_3, iv p0_4, iv p0_5, iv (4 : Int32), .val (.long (cp.toInt64)), .second, iv (4 : Int32), rv b298, rv b_448] [(.int (4 : Int32)), (.int p0_2), (.int (2 : Int32)), (.ref b_448)])) rfl (by rw [hml]; rfl) (argsL := [(.ref b_448), (.int (2 : Int32)), (.int p0_2), (.int (4 : Int32))]) (rest := []) (lenOf pd_8 rfl) rfl (by show 2 * 0 + _ ≤ _; exact Nat.le_of_eq rfl) (hb hby at_163) (fun _ _ => ⟨rfl, K458q, (by decide : 7 + 0 ≤ _), (by decide : 26 + 0 ≤ _)⟩)
      dsimp only [Pt.U, Pt.locs, Pt.cells, Pt.slots] at X461 l461 y461 z461 st461 hQ461
      rw [l461, y461, z461] at X461
      obtain ⟨rfl, N461q, K461q⟩ := hQ461
      have N462 := Fr.app N459 N461q
      have q463 : (if ((nar .byte (p0_2.toInt8.toInt32)) &&& (255 : Int32)) = (if (2 : Int32) < (4 : Int32) then (p0_2 &&& (255 : Int32)) else ((255 : Int32) - (p0_2 &&& (255 : Int32)))) then (1 : Int32) else (0 : Int32)) = (1 : Int32) := if_pos ((own_k1 _).trans (if_pos (by decide)).symm)
      obtain ⟨_, _, ⟨T464, L464, k464, n464⟩, -, X464, ⟨Lc464, hQ464, l464, y464, z464⟩, st464⟩ := Jvm.LawKit.callS X461 hx (y := MN11) hown (mvT hZ wo53) (mvT hZ wo54) (mvT hZ wo55) (mvT hZ wo56) (by decide) (backOf (W := 0) (rm_ok4_3 l Z a0 hw [] b_448 p0_3 (4 : Int32) (nar .byte (p0_0.toInt8.toInt32)) (nar .byte (p0_1.toInt8.toInt32)) (nar .byte (p0_2.toInt8.toInt32)) (nar .byte (p0_3.toInt8.toInt32)) (T448.heap) n0 f455 hq448_0) hZ wo56 wo55 (by decide) (by decide)) (g := (mkF m 181 #[iv p0_0, iv p0_1, iv p0_2, iv p0_3, iv p0_4, iv p0_5, iv (4 : Int32), .val (.long (cp.toInt64)), .second, iv (4 : Int32), rv b298, rv b_448] [(.int (4 : Int32)), (.int p0_3), (.int (3 : Int32)), (.ref b_448)])) rfl (by rw [hml]; rfl) (argsL := [(.ref b_448), (.int (3 : Int32)), (.int p0_3), (.int (4 : Int32))]) (rest := []) (lenOf pd_8 rfl) rfl (by show 2 * 0 + _ ≤ _; exact Nat.le_of_eq rfl) (hb hby at_181) (fun _ _ => ⟨rfl, K461q, (by decide : 7 + 0 ≤ _), (by decide : 26 + 0 ≤ _)⟩)
      dsimp only [Pt.U, Pt.locs, Pt.cells, Pt.slots] at X464 l464 y464 z464 st464 hQ464
      rw [l464, y464, z464] at X464
      obtain ⟨rfl, N464q, K464q⟩ := hQ464
      have N465 := Fr.app N462 N464q
      have q466 : (if ((nar .byte (p0_3.toInt8.toInt32)) &&& (255 : Int32)) = (if (3 : Int32) < (4 : Int32) then (p0_3 &&& (255 : Int32)) else ((255 : Int32) - (p0_3 &&& (255 : Int32)))) then (1 : Int32) else (0 : Int32)) = (1 : Int32) := if_pos ((own_k1 _).trans (if_pos (by decide)).symm)
      obtain ⟨fs, hr, hrun, hended, hW, hsame⟩ := X464.leave (v := some (.int (1 : Int32))) (fun h => by rw [Bd.returns] at h; cases h)
      refine ⟨_, _, pre335 _ ?_, hrun, hended, _, _, rfl, ?_, ⟨_, rfl⟩, hW, hsame.mono (by decide) (by decide)⟩
      · show Steps p.tables e below (T330.setTop (mkF m 93 #[iv p0_0, iv p0_1, iv p0_2, iv p0_3, iv p0_4, iv p0_5, iv (4 : Int32), .val (.long (cp.toInt64)), .second, iv (4 : Int32), rv b298, .unset] [(.ref b298)])) _
        refine XS.iload X330.here hx rfl (hb hby at_93) rfl ?_
        show Steps p.tables e below (T330.setTop (mkF m 95 #[iv p0_0, iv p0_1, iv p0_2, iv p0_3, iv p0_4, iv p0_5, iv (4 : Int32), .val (.long (cp.toInt64)), .second, iv (4 : Int32), rv b298, .unset] [(.int (4 : Int32)), (.ref b298)])) _
        refine st441.trans ?_
        show Steps p.tables e below (T441.setTop (mkF m 98 #[iv p0_0, iv p0_1, iv p0_2, iv p0_3, iv p0_4, iv p0_5, iv (4 : Int32), .val (.long (cp.toInt64)), .second, iv (4 : Int32), rv b298, .unset] [])) _
        refine XS.aload X441.here hx rfl (hb hby at_98) rfl rfl ?_
        show Steps p.tables e below (T441.setTop (mkF m 100 #[iv p0_0, iv p0_1, iv p0_2, iv p0_3, iv p0_4, iv p0_5, iv (4 : Int32), .val (.long (cp.toInt64)), .second, iv (4 : Int32), rv b298, .unset] [(.ref b298)])) _
        refine st448.trans ?_
        show Steps p.tables e below (T448.setTop (mkF m 103 #[iv p0_0, iv p0_1, iv p0_2, iv p0_3, iv p0_4, iv p0_5, iv (4 : Int32), .val (.long (cp.toInt64)), .second, iv (4 : Int32), rv b298, .unset] [(.ref b_448)])) _
        refine XS.astore X448.here hx rfl (hb hby at_103) rfl rfl (l' := #[iv p0_0, iv p0_1, iv p0_2, iv p0_3, iv p0_4, iv p0_5, iv (4 : Int32), .val (.long (cp.toInt64)), .second, iv (4 : Int32), rv b298, rv b_448]) rfl ?_
        refine XS.aload X448.here hx rfl (hb hby at_105) rfl rfl ?_
        show Steps p.tables e below (T448.setTop (mkF m 107 #[iv p0_0, iv p0_1, iv p0_2, iv p0_3, iv p0_4, iv p0_5, iv (4 : Int32), .val (.long (cp.toInt64)), .second, iv (4 : Int32), rv b298, rv b_448] [(.ref b_448)])) _
        refine X448.arraylength hx (Ar453.1) (State.isArrayOf_alike hZ.alike Ar453.2.1) (g := (mkF m 107 #[iv p0_0, iv p0_1, iv p0_2, iv p0_3, iv p0_4, iv p0_5, iv (4 : Int32), .val (.long (cp.toInt64)), .second, iv (4 : Int32), rv b298, rv b_448] [(.ref b_448)])) rfl rfl (hb hby at_107) _ ?_
        rw [len_of Sz453 Nn453]
        show Steps p.tables e below (T448.setTop (mkF m 108 #[iv p0_0, iv p0_1, iv p0_2, iv p0_3, iv p0_4, iv p0_5, iv (4 : Int32), .val (.long (cp.toInt64)), .second, iv (4 : Int32), rv b298, rv b_448] [(.int (4 : Int32))])) _
        refine XS.iload X448.here hx rfl (hb hby at_108) rfl ?_
        show Steps p.tables e below (T448.setTop (mkF m 110 #[iv p0_0, iv p0_1, iv p0_2, iv p0_3, iv p0_4, iv p0_5, iv (4 : Int32), .val (.long (cp.toInt64)), .second, iv (4 : Int32), rv b298, rv b_448] [(.int (4 : Int32)), (.int (4 : Int32))])) _
        refine XS.icmpYes X448.here hx rfl (pc0 := 110) (pc' := 115) rfl (hb hby at_110) rfl (teq (by decide : (4 : Int32) = (4 : Int32))).1 (by decide) (by decide) ?_
        refine XS.iload X448.here hx rfl (hb hby at_115) rfl ?_
        refine XS.iconst X448.here hx rfl (hb hby at_117) ?_
        refine XS.icmpNo X448.here hx rfl (hb hby at_118) rfl (flt (by decide : ¬ ((4 : Int32) < (1 : Int32)))).1 ?_
        show Steps p.tables e below (T448.setTop (mkF m 121 #[iv p0_0, iv p0_1, iv p0_2, iv p0_3, iv p0_4, iv p0_5, iv (4 : Int32), .val (.long (cp.toInt64)), .second, iv (4 : Int32), rv b298, rv b_448] [])) _
        refine XS.aload X448.here hx rfl (hb hby at_121) rfl rfl ?_
        refine XS.iconst X448.here hx rfl (hb hby at_123) ?_
        refine XS.iloadN X448.here hx rfl (hb hby at_124) rfl ?_
        refine XS.iload X448.here hx rfl (hb hby at_125) rfl ?_
        show Steps p.tables e below (T448.setTop (mkF m 127 #[iv p0_0, iv p0_1, iv p0_2, iv p0_3, iv p0_4, iv p0_5, iv (4 : Int32), .val (.long (cp.toInt64)), .second, iv (4 : Int32), rv b298, rv b_448] [(.int (4 : Int32)), (.int p0_0), (.int (0 : Int32)), (.ref b_448)])) _
        refine st454 _ ?_
        show Steps p.tables e below (T454.setTop (mkF m 130 #[iv p0_0, iv p0_1, iv p0_2, iv p0_3, iv p0_4, iv p0_5, iv (4 : Int32), .val (.long (cp.toInt64)), .second, iv (4 : Int32), rv b298, rv b_448] [(.int (if ((nar .byte (p0_0.toInt8.toInt32)) &&& (255 : Int32)) = (if (0 : Int32) < (4 : Int32) then (p0_0 &&& (255 : Int32)) else ((255 : Int32) - (p0_0 &&& (255 : Int32)))) then (1 : Int32) else (0 : Int32)))])) _
        rw [q457]
        show Steps p.tables e below (T454.setTop (mkF m 130 #[iv p0_0, iv p0_1, iv p0_2, iv p0_3, iv p0_4, iv p0_5, iv (4 : Int32), .val (.long (cp.toInt64)), .second, iv (4 : Int32), rv b298, rv b_448] [(.int (1 : Int32))])) _
        show Steps p.tables e below (T454.setTop (mkF m 130 #[iv p0_0, iv p0_1, iv p0_2, iv p0_3, iv p0_4, iv p0_5, iv (4 : Int32), .val (.long (cp.toInt64)), .second, iv (4 : Int32), rv b298, rv b_448] [(.int (1 : Int32))])) _
        refine XS.ifNo X454.here hx rfl (hb hby at_130) rfl ((if0 _ _).trans (feq (by decide : ¬ ((1 : Int32) = (0 : Int32)))).1) ?_
        show Steps p.tables e below (T454.setTop (mkF m 133 #[iv p0_0, iv p0_1, iv p0_2, iv p0_3, iv p0_4, iv p0_5, iv (4 : Int32), .val (.long (cp.toInt64)), .second, iv (4 : Int32), rv b298, rv b_448] [])) _
        refine XS.iload X454.here hx rfl (hb hby at_133) rfl ?_
        refine XS.iconst X454.here hx rfl (hb hby at_135) ?_
        refine XS.icmpNo X454.here hx rfl (hb hby at_136) rfl (flt (by decide : ¬ ((4 : Int32) < (2 : Int32)))).1 ?_
        refine XS.aload X454.here hx rfl (hb hby at_139) rfl rfl ?_
        show Steps p.tables e below (T454.setTop (mkF m 141 #[iv p0_0, iv p0_1, iv p0_2, iv p0_3, iv p0_4, iv p0_5, iv (4 : Int32), .val (.long (cp.toInt64)), .second, iv (4 : Int32), rv b298, rv b_448] [(.ref b_448)])) _
        refine XS.iconst X454.here hx rfl (hb hby at_141) ?_
        refine XS.iloadN X454.here hx rfl (hb hby at_142) rfl ?_
        refine XS.iload X454.here hx rfl (hb hby at_143) rfl ?_
        show Steps p.tables e below (T454.setTop (mkF m 145 #[iv p0_0, iv p0_1, iv p0_2, iv p0_3, iv p0_4, iv p0_5, iv (4 : Int32), .val (.long (cp.toInt64)), .second, iv (4 : Int32), rv b298, rv b_448] [(.int (4 : Int32)), (.int p0_1), (.int (1 : Int32)), (.ref b_448)])) _
        refine st458 _ ?_
        show Steps p.tables e below (T458.setTop (mkF m 148 #[iv p0_0, iv p0_1, iv p0_2, iv p0_3, iv p0_4, iv p0_5, iv (4 : Int32), .val (.long (cp.toInt64)), .second, iv (4 : Int32), rv b298, rv b_448] [(.int (if ((nar .byte (p0_1.toInt8.toInt32)) &&& (255 : Int32)) = (if (1 : Int32) < (4 : Int32) then (p0_1 &&& (255 : Int32)) else ((255 : Int32) - (p0_1 &&& (255 : Int32)))) then (1 : Int32) else (0 : Int32)))])) _
        rw [q460]
        show Steps p.tables e below (T458.setTop (mkF m 148 #[iv p0_0, iv p0_1, iv p0_2, iv p0_3, iv p0_4, iv p0_5, iv (4 : Int32), .val (.long (cp.toInt64)), .second, iv (4 : Int32), rv b298, rv b_448] [(.int (1 : Int32))])) _
        show Steps p.tables e below (T458.setTop (mkF m 148 #[iv p0_0, iv p0_1, iv p0_2, iv p0_3, iv p0_4, iv p0_5, iv (4 : Int32), .val (.long (cp.toInt64)), .second, iv (4 : Int32), rv b298, rv b_448] [(.int (1 : Int32))])) _
        refine XS.ifNo X458.here hx rfl (hb hby at_148) rfl ((if0 _ _).trans (feq (by decide : ¬ ((1 : Int32) = (0 : Int32)))).1) ?_
        refine XS.iload X458.here hx rfl (hb hby at_151) rfl ?_
        show Steps p.tables e below (T458.setTop (mkF m 153 #[iv p0_0, iv p0_1, iv p0_2, iv p0_3, iv p0_4, iv p0_5, iv (4 : Int32), .val (.long (cp.toInt64)), .second, iv (4 : Int32), rv b298, rv b_448] [(.int (4 : Int32))])) _
        refine XS.iconst X458.here hx rfl (hb hby at_153) ?_
        refine XS.icmpNo X458.here hx rfl (hb hby at_154) rfl (flt (by decide : ¬ ((4 : Int32) < (3 : Int32)))).1 ?_
        refine XS.aload X458.here hx rfl (hb hby at_157) rfl rfl ?_
        refine XS.iconst X458.here hx rfl (hb hby at_159) ?_
        show Steps p.tables e below (T458.setTop (mkF m 160 #[iv p0_0, iv p0_1, iv p0_2, iv p0_3, iv p0_4, iv p0_5, iv (4 : Int32), .val (.long (cp.toInt64)), .second, iv (4 : Int32), rv b298, rv b_448] [(.int (2 : Int32)), (.ref b_448)])) _
        refine XS.iloadN X458.here hx rfl (hb hby at_160) rfl ?_
        refine XS.iload X458.here hx rfl (hb hby at_161) rfl ?_
        show Steps p.tables e below (T458.setTop (mkF m 163 #[iv p0_0, iv p0_1, iv p0_2, iv p0_3, iv p0_4, iv p0_5, iv (4 : Int32), .val (.long (cp.toInt64)), .second, iv (4 : Int32), rv b298, rv b_448] [(.int (4 : Int32)), (.int p0_2), (.int (2 : Int32)), (.ref b_448)])) _
        refine st461 _ ?_
        show Steps p.tables e below (T461.setTop (mkF m 166 #[iv p0_0, iv p0_1, iv p0_2, iv p0_3, iv p0_4, iv p0_5, iv (4 : Int32), .val (.long (cp.toInt64)), .second, iv (4 : Int32), rv b298, rv b_448] [(.int (if ((nar .byte (p0_2.toInt8.toInt32)) &&& (255 : Int32)) = (if (2 : Int32) < (4 : Int32) then (p0_2 &&& (255 : Int32)) else ((255 : Int32) - (p0_2 &&& (255 : Int32)))) then (1 : Int32) else (0 : Int32)))])) _
        rw [q463]
        show Steps p.tables e below (T461.setTop (mkF m 166 #[iv p0_0, iv p0_1, iv p0_2, iv p0_3, iv p0_4, iv p0_5, iv (4 : Int32), .val (.long (cp.toInt64)), .second, iv (4 : Int32), rv b298, rv b_448] [(.int (1 : Int32))])) _
        show Steps p.tables e below (T461.setTop (mkF m 166 #[iv p0_0, iv p0_1, iv p0_2, iv p0_3, iv p0_4, iv p0_5, iv (4 : Int32), .val (.long (cp.toInt64)), .second, iv (4 : Int32), rv b298, rv b_448] [(.int (1 : Int32))])) _
        refine XS.ifNo X461.here hx rfl (hb hby at_166) rfl ((if0 _ _).trans (feq (by decide : ¬ ((1 : Int32) = (0 : Int32)))).1) ?_
        refine XS.iload X461.here hx rfl (hb hby at_169) rfl ?_
        refine XS.iconst X461.here hx rfl (hb hby at_171) ?_
        show Steps p.tables e below (T461.setTop (mkF m 172 #[iv p0_0, iv p0_1, iv p0_2, iv p0_3, iv p0_4, iv p0_5, iv (4 : Int32), .val (.long (cp.toInt64)), .second, iv (4 : Int32), rv b298, rv b_448] [(.int (4 : Int32)), (.int (4 : Int32))])) _
        refine XS.icmpNo X461.here hx rfl (hb hby at_172) rfl (flt (by decide : ¬ ((4 : Int32) < (4 : Int32)))).1 ?_
        refine XS.aload X461.here hx rfl (hb hby at_175) rfl rfl ?_
        refine XS.iconst X461.here hx rfl (hb hby at_177) ?_
        refine XS.iloadN X461.here hx rfl (hb hby at_178) rfl ?_
        show Steps p.tables e below (T461.setTop (mkF m 179 #[iv p0_0, iv p0_1, iv p0_2, iv p0_3, iv p0_4, iv p0_5, iv (4 : Int32), .val (.long (cp.toInt64)), .second, iv (4 : Int32), rv b298, rv b_448] [(.int p0_3), (.int (3 : Int32)), (.ref b_448)])) _
        refine XS.iload X461.here hx rfl (hb hby at_179) rfl ?_
        show Steps p.tables e below (T461.setTop (mkF m 181 #[iv p0_0, iv p0_1, iv p0_2, iv p0_3, iv p0_4, iv p0_5, iv (4 : Int32), .val (.long (cp.toInt64)), .second, iv (4 : Int32), rv b298, rv b_448] [(.int (4 : Int32)), (.int p0_3), (.int (3 : Int32)), (.ref b_448)])) _
        refine st464 _ ?_
        show Steps p.tables e below (T464.setTop (mkF m 184 #[iv p0_0, iv p0_1, iv p0_2, iv p0_3, iv p0_4, iv p0_5, iv (4 : Int32), .val (.long (cp.toInt64)), .second, iv (4 : Int32), rv b298, rv b_448] [(.int (if ((nar .byte (p0_3.toInt8.toInt32)) &&& (255 : Int32)) = (if (3 : Int32) < (4 : Int32) then (p0_3 &&& (255 : Int32)) else ((255 : Int32) - (p0_3 &&& (255 : Int32)))) then (1 : Int32) else (0 : Int32)))])) _
        rw [q466]
        show Steps p.tables e below (T464.setTop (mkF m 184 #[iv p0_0, iv p0_1, iv p0_2, iv p0_3, iv p0_4, iv p0_5, iv (4 : Int32), .val (.long (cp.toInt64)), .second, iv (4 : Int32), rv b298, rv b_448] [(.int (1 : Int32))])) _
        show Steps p.tables e below (T464.setTop (mkF m 184 #[iv p0_0, iv p0_1, iv p0_2, iv p0_3, iv p0_4, iv p0_5, iv (4 : Int32), .val (.long (cp.toInt64)), .second, iv (4 : Int32), rv b298, rv b_448] [(.int (1 : Int32))])) _
        refine XS.ifNo X464.here hx rfl (hb hby at_184) rfl ((if0 _ _).trans (feq (by decide : ¬ ((1 : Int32) = (0 : Int32)))).1) ?_
        refine XS.iconst X464.here hx rfl (hb hby at_187) ?_
        refine XS.goto X464.here hx rfl (pc0 := 188) (pc' := 192) rfl (hb hby at_188) (by decide) (by decide) ?_
        show Steps p.tables e below (T464.setTop (mkF m 192 #[iv p0_0, iv p0_1, iv p0_2, iv p0_3, iv p0_4, iv p0_5, iv (4 : Int32), .val (.long (cp.toInt64)), .second, iv (4 : Int32), rv b298, rv b_448] [(.int (1 : Int32))])) _
        exact retN X464 hx (t := .boolean) Bd.returns (by simp) (hb hby at_192) hr
      · show Q_rm0 Z _ _ _ _ _ _ h0 n0 _ T464.heap _
        rw [K464q]
        exact ⟨rfl, N465, (K452)⟩
set_option maxRecDepth 65536 in
set_option maxHeartbeats 40000000 in
theorem comes_1 {Post : Tables → Env → Array Value → State → Outcome → State → Prop} (hpost : ∀ tb e args s v u, (limb_1_1.after args s (.returned v) u = true ∧ limb_1_2.after args s (.returned v) u = true ∧ True) → FrameEnd s (.returned v) u (Jvm.fieldLocs frame_1_writes args s ++ Jvm.arrayLocs frame_1_arrays args s ++ Jvm.staticLocs frame_1_statics s) 24 128 → Post tb e args s (.returned v) u) :
    ArmFor flags0 classFile x code maxLocals ret World_1 tables_1 room_1 Calls_1 rest_1 Pre_1 Post := by
  intro l hfl _ _ p e ha hc hk s m args below hf hA hF happ hP
  obtain ⟨hcalls, hrest, hpre⟩ := hP
  obtain ⟨-, -, -, hnamed, -, -, -, hat⟩ := (Spec.applies_iff hf).mp happ
  obtain ⟨hg, hn⟩ := and_e (Cond.before_iff.mp (show (Jvm.Cond.and given_1 narrow_1).before args s = true from hpre))
  obtain ⟨g1, g2⟩ := and_e hg
  obtain ⟨g3, g4⟩ := and_e g2
  obtain ⟨g5, g6⟩ := and_e g4
  obtain ⟨g7, g8⟩ := and_e g6
  obtain ⟨g9, g10⟩ := and_e g8
  obtain ⟨g11, g12⟩ := and_e g10
  obtain ⟨w0, w1, w2, w3, w4, w5, rfl⟩ : ∃ w0 w1 w2 w3 w4 w5 : Value, args = #[w0, w1, w2, w3, w4, w5] := by
    have hs : args.size = 6 := by simpa [Cond.value, given_1] using g1
    obtain ⟨L⟩ := args
    match L, hs with
    | [w0, w1, w2, w3, w4, w5], _ => exact ⟨w0, w1, w2, w3, w4, w5, rfl⟩
  have hw := fun d (hd : d ∈ tables_1) => atoms_spec (ws := Jvm.Cond.code x code maxLocals ret :: tables_1) hat d (List.mem_cons_of_mem _ hd)
  have hfit : Fit s := fun {y c} hc i hi => by
    obtain ⟨ha, rfl⟩ := Array.getElem?_eq_some_iff.mp hc
    have q := List.all_eq_true.mp ((Array.all_eq_true_iff_forall_mem.mp hF) _ (Array.getElem_mem ha)) i (List.mem_range.mpr hi)
    simpa [Array.getElem?_eq_getElem hi] using q
  obtain ⟨i0, ei0⟩ := is_v g3
  obtain rfl : w0 = (.int i0) := Option.some.inj ei0
  obtain ⟨i1, ei1⟩ := is_v g5
  obtain rfl : w1 = (.int i1) := Option.some.inj ei1
  obtain ⟨i2, ei2⟩ := is_v g7
  obtain rfl : w2 = (.int i2) := Option.some.inj ei2
  obtain ⟨i3, ei3⟩ := is_v g9
  obtain rfl : w3 = (.int i3) := Option.some.inj ei3
  obtain ⟨i4, ei4⟩ := is_v g11
  obtain rfl : w4 = (.int i4) := Option.some.inj ei4
  obtain ⟨i5, ei5⟩ := is_v g12
  obtain rfl : w5 = (.int i5) := Option.some.inj ei5
  obtain ⟨n, o, h1, h2, h3, _, L, rfl, ⟨rfl, N, -⟩, hq⟩ := rm0 l s _ hw tables_1 i0 i1 i2 i3 i4 i5 s.heap s.heap.size (Nat.le_refl _)  p e ha hc hk s m _ below hf ((Spec.applies_iff_loose hf).mp happ).1 ⟨rfl, State.Warmed39.refl s, rfl⟩ trivial
  refine ⟨n, _, h1, h2, h3, hpost _ _ _ _ _ _ ⟨Cond.after_iff.mpr rfl, Cond.after_iff.mpr (eq_i res_at (Term.int_eval (1)) rfl), trivial⟩ ⟨hq.1, hq.2.1, (hq.2.2.sift fun y hy => Or.inr (N y hy)).mono (by decide) (by decide)⟩⟩
theorem main_1_1 : Claimed_1_1 := comes_1 fun _ _ _ _ _ _ h hF => ⟨h.1, hF⟩
theorem main_1_2 : Claimed_1_2 := comes_1 fun _ _ _ _ _ _ h hF => ⟨h.2.1, hF⟩
end Jvm.Pilot.@@N@@
namespace Jvm.Pilot.@@N@@
open Jvm Jvm.ClassFile Sem Op Lib Jvm.Free Jvm.Stand Jvm.Pilot.@@N@@.Jvm.D
/-! MADE BY PROGRAM (witnessworld.py) out of the Statement's table words and the real class files: 12 classes; the members and pool entries that the words name. The judged class is class 1, her method 2. -/
namespace start1
open Jvm.ClassFile
def u (s : String) : CpInfo := .utf8 (stringToUtf16 s)
/-- a pool by its gaps: so many unusable entries, then the entry; so many at the end -/
def gap : Nat → List CpInfo → List CpInfo
  | 0, r => r
  | n + 1, r => .unusable :: gap n r
def poolList (es : List (Nat × CpInfo)) (last : Nat) : List CpInfo := es.foldr (fun e r => gap e.1 (e.2 :: r)) (gap last [])
def pool (es : List (Nat × CpInfo)) (last : Nat) : Array CpInfo := ⟨poolList es last⟩
def fileOf (pool : Array CpInfo) (this : Nat) (attrs : Array Attribute := #[]) (ms : Array MethodInfo := #[]) (fl : Nat := 33) (sup : Nat := 0) (ifs : Array Nat := #[]) (fds : Array FieldInfo := #[]) : ClassFile where
  minorVersion := 0
  majorVersion := 65
  constantPool := pool
  accessFlags := fl
  thisClass := this
  superClass := sup
  interfaces := ifs
  fields := fds
  methods := ms
  attributes := attrs
def plain (name : String) (sup : Option ClassId) : Class where
  name := name
  kind := .ordinary
  loader := none
  accessFlags := 33
  super := sup
  interfaces := #[]
  cf := none
  fields := #[]
  methods := #[]
  instanceTypes := #[]
  staticTypes := #[]
  resolved := #[]
  callSites := []
  init := .initialized
  statics := none
  mirror := none

def pool0 : Array CpInfo := pool [(5, u "<init>"), (0, u "()V"), (1, .class_ 10), (1, u "java/lang/Object")] 113

def k0c0 : Code := { maxStack := 0, maxLocals := 1, code := object_method_1_code, exceptionTable := #[], attributes := #[] }
def k0m0 : Method := { name := "<init>", desc := "()V", sig := { parameters := [], returnType := none }, accessFlags := 1, code := some k0c0 }
/-- java/lang/Object -/
def k0 : Class := { plain "java/lang/Object" none with
  accessFlags := 33
  interfaces := #[]
  cf := some (fileOf pool0 8 #[] #[{ accessFlags := 1, nameIndex := 5, descriptorIndex := 6, attributes := #[] }] 33 0 #[] #[])
  fields := #[]
  methods := #[k0m0]
  instanceTypes := #[]
  staticTypes := #[]
  resolved := Array.replicate 124 none
  statics := none }

def pool1 : Array CpInfo := pool [(2, .class_ 4), (1, u "java/lang/Object"), (0, u "<init>"), (0, u "()V"), (0, .integer 2147483647), (0, .class_ 9), (0, u "com/example/dido/dido/keys/KeyWriter"), (0, .methodref 8 11), (0, .nameAndType 5 12), (0, u "(J)V"), (0, .methodref 8 14), (0, .nameAndType 15 16), (0, u "write"), (0, u "(I)V"), (0, .methodref 8 18), (0, .nameAndType 19 16), (0, u "invert"), (0, .methodref 8 21), (0, .nameAndType 22 23), (0, u "toByteArray"), (0, u "()[B"), (0, .methodref 25 26), (0, .class_ 27), (0, .nameAndType 28 29), (0, u "com/example/dido/dido/keys/KeyWriterInvertPinLaw"), (0, u "ok"), (0, u "([BIII)Z"), (3, u "law"), (0, u "(IIIIII)Z")] 4

def k1m0 : Method := { name := "<init>", desc := "()V", sig := { parameters := [], returnType := none }, accessFlags := 2, code := none }
def k1c1 : Code := { maxStack := 2, maxLocals := 6, code := method_2_code, exceptionTable := #[], attributes := #[] }
def k1m1 : Method := { name := "ok", desc := "([BIII)Z", sig := { parameters := [(.array .byte), .int, .int, .int], returnType := some .boolean }, accessFlags := 10, code := some k1c1 }
def k1c2 : Code := { maxStack := 4, maxLocals := 12, code := code, exceptionTable := #[], attributes := #[] }
def k1m2 : Method := { name := "law", desc := "(IIIIII)Z", sig := { parameters := [.int, .int, .int, .int, .int, .int], returnType := some .boolean }, accessFlags := 9, code := some k1c2 }
/-- com/example/dido/dido/keys/KeyWriterInvertPinLaw -/
def k1 : Class := { plain "com/example/dido/dido/keys/KeyWriterInvertPinLaw" (some 0) with
  accessFlags := 49
  interfaces := #[]
  cf := some (fileOf pool1 25 #[] #[{ accessFlags := 2, nameIndex := 5, descriptorIndex := 6, attributes := #[] }, { accessFlags := 10, nameIndex := 28, descriptorIndex := 29, attributes := #[] }, { accessFlags := 9, nameIndex := 33, descriptorIndex := 34, attributes := #[] }] 49 2 #[] #[])
  fields := #[]
  methods := #[k1m0, k1m1, k1m2]
  instanceTypes := #[]
  staticTypes := #[]
  resolved := Array.replicate 39 none
  statics := none }

def pool2 : Array CpInfo := pool [(3, .class_ 4), (0, u "com/example/dido/dido/keys/KeyWriter"), (4, u "<init>"), (0, u "(J)V"), (0, .methodref 12 13), (0, .class_ 14), (0, .nameAndType 9 15), (0, u "java/lang/Object"), (0, u "()V"), (0, .long 2147483639), (1, .methodref 19 20), (0, .class_ 21), (0, .nameAndType 22 23), (0, u "java/lang/Math"), (0, u "min"), (0, u "(JJ)J"), (0, .fieldref 3 25), (0, .nameAndType 26 27), (0, u "bytes"), (0, u "[B"), (0, .fieldref 3 29), (0, .nameAndType 30 31), (0, u "size"), (0, u "I"), (0, .methodref 3 33), (0, .nameAndType 34 35), (0, u "ensureRoom"), (0, u "(I)V"), (2, u "write"), (11, u "LONG"), (0, u "Ljava/lang/invoke/VarHandle;"), (8, u "INT"), (19, u "(II)I"), (16, .methodref 98 99), (0, .class_ 100), (0, .nameAndType 101 102), (0, u "java/util/Arrays"), (0, u "copyOf"), (0, u "([BI)[B"), (0, .methodref 19 104), (0, .nameAndType 105 80), (0, u "max"), (16, u "FIRST_CAPACITY"), (2, u "MOST_CAPACITY"), (1, u "MOST_UTF8_PER_CHAR"), (1, u "NOTHING"), (10, u "invert"), (0, u "toByteArray"), (0, u "()[B")] 3

def k2m0 : Method := { name := "<init>", desc := "()V", sig := { parameters := [], returnType := none }, accessFlags := 0, code := none }
def k2c1 : Code := { maxStack := 5, maxLocals := 3, code := prog_15_method_2_code, exceptionTable := #[], attributes := #[] }
def k2m1 : Method := { name := "<init>", desc := "(J)V", sig := { parameters := [.long], returnType := none }, accessFlags := 0, code := some k2c1 }
def k2c2 : Code := { maxStack := 5, maxLocals := 2, code := prog_15_method_4_code, exceptionTable := #[], attributes := #[] }
def k2m2 : Method := { name := "write", desc := "(I)V", sig := { parameters := [.int], returnType := none }, accessFlags := 0, code := some k2c2 }
def k2c3 : Code := { maxStack := 4, maxLocals := 3, code := prog_15_method_11_code, exceptionTable := #[], attributes := #[] }
def k2m3 : Method := { name := "invert", desc := "(I)V", sig := { parameters := [.int], returnType := none }, accessFlags := 0, code := some k2c3 }
def k2c4 : Code := { maxStack := 2, maxLocals := 1, code := prog_15_method_12_code, exceptionTable := #[], attributes := #[] }
def k2m4 : Method := { name := "toByteArray", desc := "()[B", sig := { parameters := [], returnType := some (.array .byte) }, accessFlags := 0, code := some k2c4 }
def k2c5 : Code := { maxStack := 5, maxLocals := 2, code := prog_15_method_13_code, exceptionTable := #[], attributes := #[] }
def k2m5 : Method := { name := "ensureRoom", desc := "(I)V", sig := { parameters := [.int], returnType := none }, accessFlags := 2, code := some k2c5 }
/-- com/example/dido/dido/keys/KeyWriter -/
def k2 : Class := { plain "com/example/dido/dido/keys/KeyWriter" (some 0) with
  accessFlags := 48
  interfaces := #[]
  cf := some (fileOf pool2 3 #[] #[{ accessFlags := 0, nameIndex := 9, descriptorIndex := 15, attributes := #[] }, { accessFlags := 0, nameIndex := 9, descriptorIndex := 10, attributes := #[] }, { accessFlags := 0, nameIndex := 38, descriptorIndex := 35, attributes := #[] }, { accessFlags := 0, nameIndex := 140, descriptorIndex := 35, attributes := #[] }, { accessFlags := 0, nameIndex := 141, descriptorIndex := 142, attributes := #[] }, { accessFlags := 2, nameIndex := 34, descriptorIndex := 35, attributes := #[] }] 48 12 #[] #[{ accessFlags := 26, nameIndex := 122, descriptorIndex := 31, attributes := #[] }, { accessFlags := 26, nameIndex := 125, descriptorIndex := 31, attributes := #[] }, { accessFlags := 26, nameIndex := 127, descriptorIndex := 31, attributes := #[] }, { accessFlags := 26, nameIndex := 50, descriptorIndex := 51, attributes := #[] }, { accessFlags := 26, nameIndex := 60, descriptorIndex := 51, attributes := #[] }, { accessFlags := 24, nameIndex := 129, descriptorIndex := 31, attributes := #[] }, { accessFlags := 2, nameIndex := 26, descriptorIndex := 27, attributes := #[] }, { accessFlags := 2, nameIndex := 30, descriptorIndex := 31, attributes := #[] }])
  fields := #[{ name := "FIRST_CAPACITY", type := .int, accessFlags := 26, slot := 0, constantValue := 0 }, { name := "MOST_CAPACITY", type := .int, accessFlags := 26, slot := 1, constantValue := 0 }, { name := "MOST_UTF8_PER_CHAR", type := .int, accessFlags := 26, slot := 2, constantValue := 0 }, { name := "LONG", type := (.object "java/lang/invoke/VarHandle"), accessFlags := 26, slot := 3, constantValue := 0 }, { name := "INT", type := (.object "java/lang/invoke/VarHandle"), accessFlags := 26, slot := 4, constantValue := 0 }, { name := "NOTHING", type := .int, accessFlags := 24, slot := 5, constantValue := 0 }, { name := "bytes", type := (.array .byte), accessFlags := 2, slot := 0, constantValue := 0 }, { name := "size", type := .int, accessFlags := 2, slot := 1, constantValue := 0 }]
  methods := #[k2m0, k2m1, k2m2, k2m3, k2m4, k2m5]
  instanceTypes := #[(.array .byte), .int]
  staticTypes := #[.int, .int, .int, (.object "java/lang/invoke/VarHandle"), (.object "java/lang/invoke/VarHandle"), .int]
  resolved := Array.replicate 146 none
  statics := none }

def pool3 : Array CpInfo := pool [(1, .class_ 2), (0, u "java/lang/Math"), (1, .class_ 6), (1, u "java/lang/Object"), (0, u "<init>"), (0, u "()V"), (89, .class_ 100), (1, u "java/lang/Math$RandomNumberGeneratorHolder"), (20, u "(JJ)J"), (50, u "negativeZeroFloatBits"), (0, u "J"), (2, u "negativeZeroDoubleBits"), (21, u "max"), (2, u "min"), (43, u "$assertionsDisabled"), (0, u "Z"), (88, u "(II)I"), (2, u "twoToTheDoubleScaleDown"), (0, u "D"), (4, u "twoToTheDoubleScaleUp"), (9, u "E"), (3, u "PI"), (2, u "TAU"), (2, u "DEGREES_TO_RADIANS"), (0, u "RADIANS_TO_DEGREES")] 94

def k3m0 : Method := { name := "<init>", desc := "()V", sig := { parameters := [], returnType := none }, accessFlags := 2, code := none }
def k3c1 : Code := { maxStack := 2, maxLocals := 2, code := jdk_29_method_65_code, exceptionTable := #[], attributes := #[] }
def k3m1 : Method := { name := "max", desc := "(II)I", sig := { parameters := [.int, .int], returnType := some .int }, accessFlags := 9, code := some k3c1 }
def k3c2 : Code := { maxStack := 2, maxLocals := 2, code := jdk_29_method_69_code, exceptionTable := #[], attributes := #[] }
def k3m2 : Method := { name := "min", desc := "(II)I", sig := { parameters := [.int, .int], returnType := some .int }, accessFlags := 9, code := some k3c2 }
def k3c3 : Code := { maxStack := 4, maxLocals := 4, code := jdk_29_method_70_code, exceptionTable := #[], attributes := #[] }
def k3m3 : Method := { name := "min", desc := "(JJ)J", sig := { parameters := [.long, .long], returnType := some .long }, accessFlags := 9, code := some k3c3 }
/-- java/lang/Math -/
def k3 : Class := { plain "java/lang/Math" (some 0) with
  accessFlags := 49
  interfaces := #[]
  cf := some (fileOf pool3 1 #[.nestMembers #[98]] #[{ accessFlags := 2, nameIndex := 7, descriptorIndex := 8, attributes := #[] }, { accessFlags := 9, nameIndex := 198, descriptorIndex := 335, attributes := #[] }, { accessFlags := 9, nameIndex := 201, descriptorIndex := 335, attributes := #[] }, { accessFlags := 9, nameIndex := 201, descriptorIndex := 121, attributes := #[] }] 49 4 #[] #[{ accessFlags := 25, nameIndex := 354, descriptorIndex := 339, attributes := #[] }, { accessFlags := 25, nameIndex := 358, descriptorIndex := 339, attributes := #[] }, { accessFlags := 25, nameIndex := 361, descriptorIndex := 339, attributes := #[] }, { accessFlags := 26, nameIndex := 364, descriptorIndex := 339, attributes := #[] }, { accessFlags := 26, nameIndex := 365, descriptorIndex := 339, attributes := #[] }, { accessFlags := 26, nameIndex := 172, descriptorIndex := 173, attributes := #[] }, { accessFlags := 26, nameIndex := 176, descriptorIndex := 173, attributes := #[] }, { accessFlags := 8, nameIndex := 344, descriptorIndex := 339, attributes := #[] }, { accessFlags := 8, nameIndex := 338, descriptorIndex := 339, attributes := #[] }, { accessFlags := 4120, nameIndex := 245, descriptorIndex := 246, attributes := #[] }])
  fields := #[{ name := "E", type := .double, accessFlags := 25, slot := 0, constantValue := 0 }, { name := "PI", type := .double, accessFlags := 25, slot := 1, constantValue := 0 }, { name := "TAU", type := .double, accessFlags := 25, slot := 2, constantValue := 0 }, { name := "DEGREES_TO_RADIANS", type := .double, accessFlags := 26, slot := 3, constantValue := 0 }, { name := "RADIANS_TO_DEGREES", type := .double, accessFlags := 26, slot := 4, constantValue := 0 }, { name := "negativeZeroFloatBits", type := .long, accessFlags := 26, slot := 5, constantValue := 0 }, { name := "negativeZeroDoubleBits", type := .long, accessFlags := 26, slot := 6, constantValue := 0 }, { name := "twoToTheDoubleScaleUp", type := .double, accessFlags := 8, slot := 7, constantValue := 0 }, { name := "twoToTheDoubleScaleDown", type := .double, accessFlags := 8, slot := 8, constantValue := 0 }, { name := "$assertionsDisabled", type := .boolean, accessFlags := 4120, slot := 9, constantValue := 0 }]
  methods := #[k3m0, k3m1, k3m2, k3m3]
  instanceTypes := #[]
  staticTypes := #[.double, .double, .double, .double, .double, .long, .long, .double, .double, .boolean]
  resolved := Array.replicate 460 none
  statics := none }

def pool4 : Array CpInfo := pool [(2, .class_ 4), (1, u "java/lang/Object"), (0, u "<init>"), (0, u "()V"), (7, .class_ 16), (1, u "java/util/Arrays"), (57, .class_ 76), (1, u "java/util/Arrays$NaturalOrder"), (36, .class_ 115), (1, u "java/util/Arrays$LegacyMergeSort"), (1, u "Z"), (32, .methodref 151 152), (0, .class_ 153), (0, .nameAndType 154 155), (0, u "java/lang/System"), (0, u "arraycopy"), (0, u "(Ljava/lang/Object;ILjava/lang/Object;II)V"), (146, u "copyOf"), (1, .methodref 305 306), (0, .class_ 307), (0, .nameAndType 308 309), (0, u "java/lang/Math"), (0, u "min"), (0, u "(II)I"), (65, .class_ 376), (0, u "java/util/Arrays$ArrayList"), (68, u "$assertionsDisabled"), (269, u "MIN_ARRAY_SORT_GRAN"), (0, u "I"), (2, u "INSERTIONSORT_THRESHOLD"), (149, u "([BI)[B"), (105, .class_ 976), (0, u "java/util/Arrays$ArrayItr")] 52

def k4m0 : Method := { name := "<init>", desc := "()V", sig := { parameters := [], returnType := none }, accessFlags := 2, code := none }
def k4c1 : Code := { maxStack := 6, maxLocals := 3, code := jdk_65_method_121_code, exceptionTable := #[], attributes := #[] }
def k4m1 : Method := { name := "copyOf", desc := "([BI)[B", sig := { parameters := [(.array .byte), .int], returnType := some (.array .byte) }, accessFlags := 9, code := some k4c1 }
/-- java/util/Arrays -/
def k4 : Class := { plain "java/util/Arrays" (some 0) with
  accessFlags := 49
  interfaces := #[]
  cf := some (fileOf pool4 14 #[.nestMembers #[975, 375, 113, 74]] #[{ accessFlags := 2, nameIndex := 5, descriptorIndex := 6, attributes := #[] }, { accessFlags := 9, nameIndex := 302, descriptorIndex := 869, attributes := #[] }] 49 2 #[] #[{ accessFlags := 26, nameIndex := 715, descriptorIndex := 716, attributes := #[] }, { accessFlags := 26, nameIndex := 719, descriptorIndex := 716, attributes := #[] }, { accessFlags := 4120, nameIndex := 445, descriptorIndex := 117, attributes := #[] }])
  fields := #[{ name := "MIN_ARRAY_SORT_GRAN", type := .int, accessFlags := 26, slot := 0, constantValue := 0 }, { name := "INSERTIONSORT_THRESHOLD", type := .int, accessFlags := 26, slot := 1, constantValue := 0 }, { name := "$assertionsDisabled", type := .boolean, accessFlags := 4120, slot := 2, constantValue := 0 }]
  methods := #[k4m0, k4m1]
  instanceTypes := #[]
  staticTypes := #[.int, .int, .boolean]
  resolved := Array.replicate 1029 none
  statics := none }

def pool5 : Array CpInfo := pool [(2, .class_ 4), (1, u "java/lang/Object"), (0, u "<init>"), (0, u "()V"), (1, .class_ 10), (1, u "java/lang/System"), (0, u "allowSecurityManager"), (0, u "I"), (16, u "cons"), (0, u "Ljava/io/Console;"), (77, .class_ 110), (1, u "java/lang/System$CallersHolder"), (43, u "initialErrStream"), (0, u "Ljava/io/PrintStream;"), (19, u "security"), (0, u "Ljava/lang/SecurityManager;"), (31, .class_ 209), (0, u "java/lang/System$1"), (7, u "props"), (0, u "Ljava/util/Properties;"), (2, u "lineSeparator"), (0, u "Ljava/lang/String;"), (96, .class_ 321), (1, u "java/lang/System$LoggerFinder"), (5, .class_ 328), (0, u "java/lang/System$Logger"), (67, u "err"), (2, u "out"), (91, u "notSupportedJnuEncoding"), (15, u "in"), (17, u "initialIn"), (0, u "Ljava/io/InputStream;"), (35, u "bootLayer"), (0, u "Ljava/lang/ModuleLayer;"), (99, .class_ 664), (0, u "java/lang/System$2"), (9, u "NEVER"), (2, u "MAYBE"), (49, u "arraycopy"), (0, u "(Ljava/lang/Object;ILjava/lang/Object;II)V"), (72, .class_ 802), (0, u "java/lang/System$Logger$Level")] 31

def k5m0 : Method := { name := "<init>", desc := "()V", sig := { parameters := [], returnType := none }, accessFlags := 2, code := none }
def k5m1 : Method := { name := "arraycopy", desc := "(Ljava/lang/Object;ILjava/lang/Object;II)V", sig := { parameters := [(.object "java/lang/Object"), .int, (.object "java/lang/Object"), .int, .int], returnType := none }, accessFlags := 265, code := none }
/-- java/lang/System -/
def k5 : Class := { plain "java/lang/System" (some 0) with
  accessFlags := 49
  interfaces := #[]
  cf := some (fileOf pool5 8 #[.nestMembers #[319, 327, 801, 108, 663, 208]] #[{ accessFlags := 2, nameIndex := 5, descriptorIndex := 6, attributes := #[] }, { accessFlags := 265, nameIndex := 727, descriptorIndex := 728, attributes := #[] }] 49 2 #[] #[{ accessFlags := 25, nameIndex := 507, descriptorIndex := 526, attributes := #[] }, { accessFlags := 25, nameIndex := 399, descriptorIndex := 155, attributes := #[] }, { accessFlags := 25, nameIndex := 396, descriptorIndex := 155, attributes := #[] }, { accessFlags := 10, nameIndex := 525, descriptorIndex := 526, attributes := #[] }, { accessFlags := 26, nameIndex := 674, descriptorIndex := 12, attributes := #[] }, { accessFlags := 26, nameIndex := 677, descriptorIndex := 12, attributes := #[] }, { accessFlags := 10, nameIndex := 11, descriptorIndex := 12, attributes := #[] }, { accessFlags := 74, nameIndex := 175, descriptorIndex := 176, attributes := #[] }, { accessFlags := 10, nameIndex := 491, descriptorIndex := 222, attributes := #[] }, { accessFlags := 74, nameIndex := 29, descriptorIndex := 30, attributes := #[] }, { accessFlags := 74, nameIndex := 154, descriptorIndex := 155, attributes := #[] }, { accessFlags := 10, nameIndex := 217, descriptorIndex := 218, attributes := #[] }, { accessFlags := 10, nameIndex := 221, descriptorIndex := 222, attributes := #[] }, { accessFlags := 8, nameIndex := 562, descriptorIndex := 563, attributes := #[] }])
  fields := #[{ name := "in", type := (.object "java/io/InputStream"), accessFlags := 25, slot := 0, constantValue := 0 }, { name := "out", type := (.object "java/io/PrintStream"), accessFlags := 25, slot := 1, constantValue := 0 }, { name := "err", type := (.object "java/io/PrintStream"), accessFlags := 25, slot := 2, constantValue := 0 }, { name := "initialIn", type := (.object "java/io/InputStream"), accessFlags := 10, slot := 3, constantValue := 0 }, { name := "NEVER", type := .int, accessFlags := 26, slot := 4, constantValue := 0 }, { name := "MAYBE", type := .int, accessFlags := 26, slot := 5, constantValue := 0 }, { name := "allowSecurityManager", type := .int, accessFlags := 10, slot := 6, constantValue := 0 }, { name := "security", type := (.object "java/lang/SecurityManager"), accessFlags := 74, slot := 7, constantValue := 0 }, { name := "notSupportedJnuEncoding", type := (.object "java/lang/String"), accessFlags := 10, slot := 8, constantValue := 0 }, { name := "cons", type := (.object "java/io/Console"), accessFlags := 74, slot := 9, constantValue := 0 }, { name := "initialErrStream", type := (.object "java/io/PrintStream"), accessFlags := 74, slot := 10, constantValue := 0 }, { name := "props", type := (.object "java/util/Properties"), accessFlags := 10, slot := 11, constantValue := 0 }, { name := "lineSeparator", type := (.object "java/lang/String"), accessFlags := 10, slot := 12, constantValue := 0 }, { name := "bootLayer", type := (.object "java/lang/ModuleLayer"), accessFlags := 8, slot := 13, constantValue := 0 }]
  methods := #[k5m0, k5m1]
  instanceTypes := #[]
  staticTypes := #[(.object "java/io/InputStream"), (.object "java/io/PrintStream"), (.object "java/io/PrintStream"), (.object "java/io/InputStream"), .int, .int, .int, (.object "java/lang/SecurityManager"), (.object "java/lang/String"), (.object "java/io/Console"), (.object "java/io/PrintStream"), (.object "java/util/Properties"), (.object "java/lang/String"), (.object "java/lang/ModuleLayer")]
  resolved := Array.replicate 834 none
  statics := none }

def pool6 : Array CpInfo := pool [(1, u "java/lang/Cloneable"), (0, .class_ 1), (0, u "java/lang/Object"), (0, .class_ 3)] 3

/-- java/lang/Cloneable -/
def k6 : Class := { plain "java/lang/Cloneable" (some 0) with
  accessFlags := 1537
  interfaces := #[]
  cf := some (fileOf pool6 2 #[] #[] 1537 4 #[] #[])
  fields := #[]
  methods := #[]
  instanceTypes := #[]
  staticTypes := #[]
  resolved := Array.replicate 8 none
  statics := none }

def pool7 : Array CpInfo := pool [(1, u "java/io/Serializable"), (0, .class_ 1), (0, u "java/lang/Object"), (0, .class_ 3)] 3

/-- java/io/Serializable -/
def k7 : Class := { plain "java/io/Serializable" (some 0) with
  accessFlags := 1537
  interfaces := #[]
  cf := some (fileOf pool7 2 #[] #[] 1537 4 #[] #[])
  fields := #[]
  methods := #[]
  instanceTypes := #[]
  staticTypes := #[]
  resolved := Array.replicate 8 none
  statics := none }

/-- the primitive byte -/
def k8 : Class := { plain "byte" none with kind := .primitive 'B', accessFlags := 0x411 }
/-- [B -/
def k9 : Class := { plain "[B" (some 0) with kind := .array 8 .byte, interfaces := #[6, 7], accessFlags := 1041 }

/-- the primitive int -/
def k10 : Class := { plain "int" none with kind := .primitive 'I', accessFlags := 0x411 }
/-- [I -/
def k11 : Class := { plain "[I" (some 0) with kind := .array 10 .int, interfaces := #[6, 7], accessFlags := 1041 }

def heap : Heap := #[]
def classes : Array Class := #[k0, k1, k2, k3, k4, k5, k6, k7, k8, k9, k10, k11]
def interned : List (Array UInt16 × Addr) := []
def slotsUsed : Nat := 0
def theMethod : MethodId := ⟨1, 2⟩
def args0 : Array Value := #[.int 10, .int 3, .int 17, .int 4, .int 5, .int 6]
def aboutOver (below : List Frame) : State where
  vm := { classes := classes, interned := interned.toArray }
  heap := heap
  slotsUsed := slotsUsed
  threads := #[{ frames := .invoking theMethod args0 :: below }]
def below0 : List Frame := [.native { method := ⟨0, 0⟩, args := #[] }]
def about1 : State := aboutOver below0
def p0 : Program := .bare "" "" ""
def e0 : Env := launch0.env 0 0 0
theorem w_frames : about1.frames = Frame.invoking theMethod args0 :: below0 := rfl
set_option maxRecDepth 65536 in
theorem w_args : argsFit about1.vm theMethod args0 = true := by decide +kernel
set_option maxRecDepth 65536 in
theorem w_heap : heapFits about1 = true := by decide +kernel
set_option maxRecDepth 65536 in
theorem w_runnable : about1.curStatus? = some .runnable := by decide +kernel
set_option maxRecDepth 65536 in
theorem w_alone : about1.alone = true := by decide +kernel
set_option maxRecDepth 65536 in
theorem w_named : about1.methodNamed? x = some theMethod := by decide +kernel
set_option maxRecDepth 65536 in
theorem w_hears : about1.hears theMethod below0 = true := by decide +kernel
set_option maxRecDepth 65536 in
theorem w_ripe : about1.ripe theMethod args0 below0 = true := by decide +kernel
theorem w_running : about1.status = .running := rfl
set_option maxRecDepth 65536 in
theorem w_room : about1.hasRoom e0.platform room_1 = true :=
  launch0.hasRoom_least _ room_1 (by decide +kernel) (by decide +kernel) (by decide +kernel) (by decide +kernel) (by decide +kernel) (by decide +kernel)
theorem allAtoms_all (ts : List Jvm.Cond) (a : Array Jvm.Value) (st : Jvm.State) : (allAtoms ts).before a st = ts.all (fun c => c.before a st) := by
  induction ts with
  | nil => rfl
  | cons c t ih =>
    show (Jvm.Cond.and c (allAtoms t)).before a st = _
    rw [Jvm.Cond.before_and, ih, List.all_cons]
def words1 : List Jvm.Cond := Jvm.Cond.code x code maxLocals ret :: tables_1
/-- a 'code' word, met by the world's own term for the bytes: nothing is compared byte by byte -/
theorem code_word {y : MethodName} {bytes : ByteArray} {mx : Nat} {rt : Option FieldType} {a : Array Value} {s : State} {m : MethodId} {meth : Method} {c : Code} (h1 : s.methodNamed? y = some m) (h2 : s.vm.method? m = some meth) (h3 : meth.code = some c) (h4 : c.code = bytes)
    (h5 : (c.maxLocals == mx && c.exceptionTable.isEmpty && decide (c.maxStack ≤ mostOperands) && decide (meth.sig.returnType = rt) && !meth.locks && decide (parseMethodDescriptor y.desc = some meth.sig)) = true) : (Jvm.Cond.code y bytes mx rt).before a s = true := by
  simp only [Bool.and_eq_true, beq_iff_eq, Bool.not_eq_true', decide_eq_true_eq] at h5
  obtain ⟨⟨⟨⟨⟨g1, g2⟩, g3⟩, g4⟩, g5⟩, g6⟩ := h5
  simp [Cond.before, Cond.holds, Cond.value, h1, h2, h3, h4, g1, g2, g3, g4, g5, g6]
def isCode : Jvm.Cond → Bool
  | .code _ _ _ _ => true
  | _ => false
theorem all_split {L : List Jvm.Cond} {P : Jvm.Cond → Bool} (h1 : L.all (fun c => isCode c || P c) = true) (h2 : ∀ c ∈ L.filter isCode, P c = true) : L.all P = true := by
  refine List.all_eq_true.mpr fun c hc => ?_
  have h := List.all_eq_true.mp h1 c hc
  rcases Bool.eq_false_or_eq_true (isCode c) with hi | hi
  · exact h2 c (List.mem_filter.mpr ⟨hc, hi⟩)
  · simpa [hi] using h
set_option maxRecDepth 65536 in
theorem w_c0 : (Jvm.Cond.code x code maxLocals ret).before args0 about1 = true := code_word (m := ⟨1, 2⟩) (meth := k1m2) (c := k1c2) (by decide +kernel) rfl rfl rfl (by decide +kernel)
set_option maxRecDepth 65536 in
theorem w_c1 : (Jvm.Cond.code ({ cls := "com/example/dido/dido/keys/KeyWriter", name := "<init>", desc := "(J)V" } : Jvm.MethodName) prog_15_method_2_code (3 : Nat) (Option.none : Option Jvm.ClassFile.FieldType)).before args0 about1 = true := code_word (m := ⟨2, 1⟩) (meth := k2m1) (c := k2c1) (by decide +kernel) rfl rfl rfl (by decide +kernel)
set_option maxRecDepth 65536 in
theorem w_c2 : (Jvm.Cond.code ({ cls := "java/lang/Object", name := "<init>", desc := "()V" } : Jvm.MethodName) object_method_1_code (1 : Nat) (Option.none : Option Jvm.ClassFile.FieldType)).before args0 about1 = true := code_word (m := ⟨0, 0⟩) (meth := k0m0) (c := k0c0) (by decide +kernel) rfl rfl rfl (by decide +kernel)
set_option maxRecDepth 65536 in
theorem w_c3 : (Jvm.Cond.code ({ cls := "java/lang/Math", name := "min", desc := "(JJ)J" } : Jvm.MethodName) jdk_29_method_70_code (4 : Nat) (Option.some Jvm.ClassFile.FieldType.long)).before args0 about1 = true := code_word (m := ⟨3, 3⟩) (meth := k3m3) (c := k3c3) (by decide +kernel) rfl rfl rfl (by decide +kernel)
set_option maxRecDepth 65536 in
theorem w_c4 : (Jvm.Cond.code ({ cls := "com/example/dido/dido/keys/KeyWriter", name := "write", desc := "(I)V" } : Jvm.MethodName) prog_15_method_4_code (2 : Nat) (Option.none : Option Jvm.ClassFile.FieldType)).before args0 about1 = true := code_word (m := ⟨2, 2⟩) (meth := k2m2) (c := k2c2) (by decide +kernel) rfl rfl rfl (by decide +kernel)
set_option maxRecDepth 65536 in
theorem w_c5 : (Jvm.Cond.code ({ cls := "com/example/dido/dido/keys/KeyWriter", name := "ensureRoom", desc := "(I)V" } : Jvm.MethodName) prog_15_method_13_code (2 : Nat) (Option.none : Option Jvm.ClassFile.FieldType)).before args0 about1 = true := code_word (m := ⟨2, 5⟩) (meth := k2m5) (c := k2c5) (by decide +kernel) rfl rfl rfl (by decide +kernel)
set_option maxRecDepth 65536 in
theorem w_c6 : (Jvm.Cond.code ({ cls := "java/lang/Math", name := "max", desc := "(II)I" } : Jvm.MethodName) jdk_29_method_65_code (2 : Nat) (Option.some Jvm.ClassFile.FieldType.int)).before args0 about1 = true := code_word (m := ⟨3, 1⟩) (meth := k3m1) (c := k3c1) (by decide +kernel) rfl rfl rfl (by decide +kernel)
set_option maxRecDepth 65536 in
theorem w_c7 : (Jvm.Cond.code ({ cls := "java/util/Arrays", name := "copyOf", desc := "([BI)[B" } : Jvm.MethodName) jdk_65_method_121_code (3 : Nat) (Option.some (Jvm.ClassFile.FieldType.array Jvm.ClassFile.FieldType.byte))).before args0 about1 = true := code_word (m := ⟨4, 1⟩) (meth := k4m1) (c := k4c1) (by decide +kernel) rfl rfl rfl (by decide +kernel)
set_option maxRecDepth 65536 in
theorem w_c8 : (Jvm.Cond.code ({ cls := "java/lang/Math", name := "min", desc := "(II)I" } : Jvm.MethodName) jdk_29_method_69_code (2 : Nat) (Option.some Jvm.ClassFile.FieldType.int)).before args0 about1 = true := code_word (m := ⟨3, 2⟩) (meth := k3m2) (c := k3c2) (by decide +kernel) rfl rfl rfl (by decide +kernel)
set_option maxRecDepth 65536 in
theorem w_c9 : (Jvm.Cond.code ({ cls := "com/example/dido/dido/keys/KeyWriter", name := "invert", desc := "(I)V" } : Jvm.MethodName) prog_15_method_11_code (3 : Nat) (Option.none : Option Jvm.ClassFile.FieldType)).before args0 about1 = true := code_word (m := ⟨2, 3⟩) (meth := k2m3) (c := k2c3) (by decide +kernel) rfl rfl rfl (by decide +kernel)
set_option maxRecDepth 65536 in
theorem w_c10 : (Jvm.Cond.code ({ cls := "com/example/dido/dido/keys/KeyWriter", name := "toByteArray", desc := "()[B" } : Jvm.MethodName) prog_15_method_12_code (1 : Nat) (Option.some (Jvm.ClassFile.FieldType.array Jvm.ClassFile.FieldType.byte))).before args0 about1 = true := code_word (m := ⟨2, 4⟩) (meth := k2m4) (c := k2c4) (by decide +kernel) rfl rfl rfl (by decide +kernel)
set_option maxRecDepth 65536 in
theorem w_c11 : (Jvm.Cond.code ({ cls := "com/example/dido/dido/keys/KeyWriterInvertPinLaw", name := "ok", desc := "([BIII)Z" } : Jvm.MethodName) method_2_code (6 : Nat) (Option.some Jvm.ClassFile.FieldType.boolean)).before args0 about1 = true := code_word (m := ⟨1, 1⟩) (meth := k1m1) (c := k1c1) (by decide +kernel) rfl rfl rfl (by decide +kernel)
def codes1 : List Jvm.Cond := [Jvm.Cond.code x code maxLocals ret, Jvm.Cond.code ({ cls := "com/example/dido/dido/keys/KeyWriter", name := "<init>", desc := "(J)V" } : Jvm.MethodName) prog_15_method_2_code (3 : Nat) (Option.none : Option Jvm.ClassFile.FieldType), Jvm.Cond.code ({ cls := "java/lang/Object", name := "<init>", desc := "()V" } : Jvm.MethodName) object_method_1_code (1 : Nat) (Option.none : Option Jvm.ClassFile.FieldType), Jvm.Cond.code ({ cls := "java/lang/Math", name := "min", desc := "(JJ)J" } : Jvm.MethodName) jdk_29_method_70_code (4 : Nat) (Option.some Jvm.ClassFile.FieldType.long), Jvm.Cond.code ({ cls := "com/example/dido/dido/keys/KeyWriter", name := "write", desc := "(I)V" } : Jvm.MethodName) prog_15_method_4_code (2 : Nat) (Option.none : Option Jvm.ClassFile.FieldType), Jvm.Cond.code ({ cls := "com/example/dido/dido/keys/KeyWriter", name := "ensureRoom", desc := "(I)V" } : Jvm.MethodName) prog_15_method_13_code (2 : Nat) (Option.none : Option Jvm.ClassFile.FieldType), Jvm.Cond.code ({ cls := "java/lang/Math", name := "max", desc := "(II)I" } : Jvm.MethodName) jdk_29_method_65_code (2 : Nat) (Option.some Jvm.ClassFile.FieldType.int), Jvm.Cond.code ({ cls := "java/util/Arrays", name := "copyOf", desc := "([BI)[B" } : Jvm.MethodName) jdk_65_method_121_code (3 : Nat) (Option.some (Jvm.ClassFile.FieldType.array Jvm.ClassFile.FieldType.byte)), Jvm.Cond.code ({ cls := "java/lang/Math", name := "min", desc := "(II)I" } : Jvm.MethodName) jdk_29_method_69_code (2 : Nat) (Option.some Jvm.ClassFile.FieldType.int), Jvm.Cond.code ({ cls := "com/example/dido/dido/keys/KeyWriter", name := "invert", desc := "(I)V" } : Jvm.MethodName) prog_15_method_11_code (3 : Nat) (Option.none : Option Jvm.ClassFile.FieldType), Jvm.Cond.code ({ cls := "com/example/dido/dido/keys/KeyWriter", name := "toByteArray", desc := "()[B" } : Jvm.MethodName) prog_15_method_12_code (1 : Nat) (Option.some (Jvm.ClassFile.FieldType.array Jvm.ClassFile.FieldType.byte)), Jvm.Cond.code ({ cls := "com/example/dido/dido/keys/KeyWriterInvertPinLaw", name := "ok", desc := "([BIII)Z" } : Jvm.MethodName) method_2_code (6 : Nat) (Option.some Jvm.ClassFile.FieldType.boolean)]
set_option maxRecDepth 65536 in
theorem codes_eq : words1.filter isCode = codes1 := rfl
theorem w_codes : ∀ c ∈ words1.filter isCode, c.before args0 about1 = true := by
  rw [codes_eq]
  intro c hc
  simp only [codes1, List.mem_cons, List.not_mem_nil, or_false] at hc
  rcases hc with rfl | rfl | rfl | rfl | rfl | rfl | rfl | rfl | rfl | rfl | rfl | rfl
  · exact w_c0
  · exact w_c1
  · exact w_c2
  · exact w_c3
  · exact w_c4
  · exact w_c5
  · exact w_c6
  · exact w_c7
  · exact w_c8
  · exact w_c9
  · exact w_c10
  · exact w_c11
set_option maxRecDepth 65536 in
theorem w_t1 : (words1.take 24).all (fun c => isCode c || c.before args0 about1) = true := by decide +kernel
set_option maxRecDepth 65536 in
theorem w_t2 : ((words1.drop 24).take 24).all (fun c => isCode c || c.before args0 about1) = true := by decide +kernel
set_option maxRecDepth 65536 in
theorem w_t3 : ((words1.drop 24).drop 24).all (fun c => isCode c || c.before args0 about1) = true := by decide +kernel
theorem w_tables : (allAtoms (Jvm.Cond.code x code maxLocals ret :: tables_1)).before args0 about1 = true := by
  rw [allAtoms_all]
  show words1.all (fun c => c.before args0 about1) = true
  refine all_split ?_ w_codes
  rw [← List.take_append_drop 24 words1, List.all_append, w_t1, ← List.take_append_drop 24 (words1.drop 24), List.all_append, w_t2, w_t3]
  rfl
set_option maxRecDepth 65536 in
theorem w_case : (Jvm.Cond.and given_1 narrow_1).before args0 about1 = true := by decide +kernel
theorem w_applies : (headSpec (Jvm.Cond.code x code maxLocals ret :: tables_1) room_1).applies x e0.platform about1 = true :=
  (Spec.applies_iff w_frames).mpr ⟨w_running, w_runnable, w_alone, w_named, w_hears, w_ripe, w_room, w_tables⟩
theorem atStart : AtStart classFile x code maxLocals ret World_1 tables_1 room_1 Calls_1 rest_1 Pre_1 launch0 p0 e0 about1 theMethod args0 below0 :=
  ⟨lists_1, trivial, launch0.admits_env _ _ _, launch0.least_env, fairChoices_fair.cas, fairChoices_fair.clock, w_frames, w_args, w_heap, w_applies, trivial, trivial, w_case⟩
end start1
theorem witness_1 : WitnessClaimed_1 := ⟨start1.p0, start1.e0, start1.about1, start1.theMethod, start1.args0, start1.below0, start1.atStart⟩
end Jvm.Pilot.@@N@@
