import JvmDerived
import JvmDerived.Pilot.@@N@@Statement
import JvmDerived.Pilot.@@N@@Code
set_option linter.unusedVariables false
set_option linter.unusedSimpArgs false
namespace Jvm.RoadKit
open Sem ClassFile Op Lib Jvm.Stand Jvm.Free Jvm.LawKit
section New
variable {p : Program} {l : Launch} {e : Env} {R : Room} {s : State} {m : MethodId} {args : Array Value} {below : List Frame} {meth : Method} {c : Code} {T : State} {locs : List Loc} {cells slots : Nat}
theorem retI (X : Stand p l e R s m args below meth c T locs cells slots) (hx : p.tables.exec = Jvm.exec) {pc : Nat} {Ls : Array Slot} {z : Int32} {rest : List Value} (hret : meth.sig.returnType = some .int) (hd : decode c.code pc = .ok (.ireturn, 1)) {fs : List Frame}
    (hl : ∀ (f : JFrame) (acts : List Action), f.method = m → f.locked = none → f.entered = [] → (doReturn e (T.setTop f) acts (some (.int z))).1 = T.setFrames fs) : Steps p.tables e below (T.setTop (mkF m pc Ls (.int z :: rest))) (T.setFrames fs) := by
  have hm' : T.vm.method? m = some meth := X.method'
  have hn : narrow .int (.int z) = .int z := rfl
  show Steps p.tables e below (T.setTop { method := m, pc := pc, locals := Ls, stack := _ :: rest, locked := none }) _
  jvm_step X.here [X.here.top, hx, hd, hm', hret, hn]
  first | (intro acts; rw [hl _ acts rfl rfl rfl]) | rw [hl _ _ rfl rfl rfl]
  exact Steps.refl _
end New
end Jvm.RoadKit
namespace Jvm.Pilot.@@N@@
open Jvm Jvm.ClassFile Sem Op Lib Jvm.Free Jvm.Stand Jvm.LawKit Jvm.RoadKit Bundle Jvm.Pilot.@@N@@.Jvm.D
def Av (Z : State) (h : Heap) (a : Addr) (ty : FieldType) (n : Int32) (vs : List Value) (d : Value) : Prop := ∃ k, Arv Z h a k ty n vs d
theorem Av.lt {Z : State} {h : Heap} {a : Addr} {ty : FieldType} {n : Int32} {vs : List Value} {d : Value} (F : Av Z h a ty n vs d) : a < h.size := by obtain ⟨k, F⟩ := F; exact F.lt
theorem Av.ext {Z : State} {h h' : Heap} {a : Addr} {ty : FieldType} {n : Int32} {vs : List Value} {d : Value} (F : Av Z h a ty n vs d) (E : Ext h h') : Av Z h' a ty n vs d := by obtain ⟨k, F⟩ := F; exact ⟨k, F.ext E⟩
theorem Av.other {Z : State} {h h' : Heap} {a b : Addr} {ty : FieldType} {n : Int32} {vs : List Value} {d : Value} {sl : Nat} {v : Value} (F : Av Z h b ty n vs d) (W : Wr h h' a sl v) (q : b ≠ a) : Av Z h' b ty n vs d := by obtain ⟨k, F⟩ := F; exact ⟨k, F.other W q⟩
def Al (Z : State) (h : Heap) (a : Addr) (ty : FieldType) (n : Int32) : Prop := ∃ c : Cell, Arr Z h a c ty ∧ c.slots.size = n.toNatClampNeg ∧ ¬ n < 0
theorem Al.lt {Z : State} {h : Heap} {a : Addr} {ty : FieldType} {n : Int32} (F : Al Z h a ty n) : a < h.size := by obtain ⟨c, A, -⟩ := F; exact A.lt
theorem Al.ext {Z : State} {h h' : Heap} {a : Addr} {ty : FieldType} {n : Int32} (F : Al Z h a ty n) (E : Ext h h') : Al Z h' a ty n := by obtain ⟨c, A, r⟩ := F; exact ⟨c, A.ext E, r⟩
theorem Al.other {Z : State} {h h' : Heap} {a b : Addr} {ty : FieldType} {n : Int32} {sl : Nat} {v : Value} (F : Al Z h b ty n) (W : Wr h h' a sl v) (q : b ≠ a) : Al Z h' b ty n := by obtain ⟨c, A, r⟩ := F; exact ⟨c, A.other W q, r⟩
theorem Al.same {Z : State} {h h' : Heap} {a : Addr} {ty : FieldType} {n : Int32} {sl : Nat} {v : Value} (F : Al Z h a ty n) (W : Wr h h' a sl v) : Al Z h' a ty n := by obtain ⟨c, A, r⟩ := F; exact ⟨_, A.same W, by rw [sz_set]; exact r.1, r.2⟩
theorem Al.keep {Z : State} {h h' : Heap} {a : Addr} {ty : FieldType} {n : Int32} {ws : List Addr} (F : Al Z h a ty n) (K : Keep h h' ws) (q : a ∉ ws) : Al Z h' a ty n := by obtain ⟨c, A, r⟩ := F; exact ⟨c, ⟨K.2.1 a c A.1 q, A.2⟩, r⟩
theorem Av.al {Z : State} {h : Heap} {a : Addr} {ty : FieldType} {n : Int32} {vs : List Value} {d : Value} (F : Av Z h a ty n vs d) : Al Z h a ty n := by obtain ⟨k, c, A, -, r1, r2, -⟩ := F; exact ⟨c, A, r1, r2⟩
theorem Av.keep {Z : State} {h h' : Heap} {a : Addr} {ty : FieldType} {n : Int32} {vs : List Value} {d : Value} {ws : List Addr} (F : Av Z h a ty n vs d) (K : Keep h h' ws) (q : a ∉ ws) : Av Z h' a ty n vs d := by obtain ⟨k, F⟩ := F; exact ⟨k, F.keep K q⟩
abbrev MN1 : MethodName := ⟨"com/example/arbiter/arbiter/NodeRule", "<init>", "(Ljava/lang/String;Lcom/example/arbiter/arbiter/DocumentOperation;Lcom/example/arbiter/arbiter/NodeRule$Sign;Lcom/example/arbiter/arbiter/NodeRule$Propagation;)V"⟩
abbrev MN3 : MethodName := ⟨"com/example/arbiter/arbiter/NodeRule", "covers", "(I)Z"⟩
theorem own_eqv {args : Array Value} {s : State} {t : Term} {k : Int32} (h : (Jvm.Cond.eq t (.int k)).value args s none s [] = some true) : t.eval args s none [] s = some (.int k) := by
  cases ht : t.eval args s none [] s with
  | none => simp [Jvm.Cond.value, ht] at h
  | some v => cases v <;> simp [Jvm.Cond.value, ht, Term.eval] at h ⊢; exact h
theorem own_mod3 (x : Int32) : ((x &&& (2147483647 : Int32)) % (3 : Int32)) = 0 ∨ ((x &&& (2147483647 : Int32)) % (3 : Int32)) = 1 ∨ ((x &&& (2147483647 : Int32)) % (3 : Int32)) = 2 := by
  have h0 := c_mask x 2147483647 31 (by decide) (by decide)
  have h := (c_iremV (x &&& 2147483647) 3).1 (by omega) (by decide)
  have h1 := h.1
  have h2 := h.2.1
  simp only [← Int32.toInt_inj, Int32.reduceToInt] at *
  omega
theorem own_3 (x : Int32) : 0 ≤ (x &&& (3 : Int32)).toInt := by
  have e := c_mask x 3 2 (by decide) (by decide)
  omega
theorem own_m (x : Int32) : 0 ≤ (x &&& (2147483647 : Int32)).toInt := by
  have e := c_mask x 2147483647 31 (by decide) (by decide)
  omega
theorem own_z (l : Int32) (h : 0 ≤ l.toInt) : (l = (0 : Int32)) ↔ ¬ ((0 : Int32) < l) := by
  rw [← Int32.toInt_inj, Int32.lt_iff_toInt_lt]
  simp only [Int32.reduceToInt]
  omega
theorem own_mx (l : Int32) : ¬ ((2147483647 : Int32) < l) := by
  rw [Int32.lt_iff_toInt_lt]
  have := rng32 l
  simp only [Int32.reduceToInt]
  omega
theorem d1_0 : decode prog_22_method_1_code 0 = .ok (.aload_n 0, 1) := by decide +kernel
theorem d1_1 : decode prog_22_method_1_code 1 = .ok (.invokespecial 1, 3) := by decide +kernel
theorem d1_4 : decode prog_22_method_1_code 4 = .ok (.aload_n 0, 1) := by decide +kernel
theorem d1_5 : decode prog_22_method_1_code 5 = .ok (.aload_n 1, 1) := by decide +kernel
theorem d1_6 : decode prog_22_method_1_code 6 = .ok (.putfield 7, 3) := by decide +kernel
theorem d1_9 : decode prog_22_method_1_code 9 = .ok (.aload_n 0, 1) := by decide +kernel
theorem d1_10 : decode prog_22_method_1_code 10 = .ok (.aload_n 2, 1) := by decide +kernel
theorem d1_11 : decode prog_22_method_1_code 11 = .ok (.putfield 13, 3) := by decide +kernel
theorem d1_14 : decode prog_22_method_1_code 14 = .ok (.aload_n 0, 1) := by decide +kernel
theorem d1_15 : decode prog_22_method_1_code 15 = .ok (.aload_n 3, 1) := by decide +kernel
theorem d1_16 : decode prog_22_method_1_code 16 = .ok (.putfield 17, 3) := by decide +kernel
theorem d1_19 : decode prog_22_method_1_code 19 = .ok (.aload_n 0, 1) := by decide +kernel
theorem d1_20 : decode prog_22_method_1_code 20 = .ok (.aload 4, 2) := by decide +kernel
theorem d1_22 : decode prog_22_method_1_code 22 = .ok (.putfield 21, 3) := by decide +kernel
theorem d1_25 : decode prog_22_method_1_code 25 = .ok (.return_, 1) := by decide +kernel
theorem pn_com_example_arbiter_arbiter_NodeRule : plainName "com/example/arbiter/arbiter/NodeRule" = true := by first | (simp [plainName, overriddenIn]; done) | decide +kernel
theorem ef_rm1 (m : MethodId) (x0 : Addr) (x1 : Addr) (x3 : Addr) (x4 : Addr) : entryFrame m #[(.ref x0), (.ref x1), .null, (.ref x3), (.ref x4)] 5 = mkF m 0 #[rv x0, rv x1, .val .null, rv x3, rv x4] [] := by first | (simp [entryFrame, mkF, argsToLocals, Value.category]; done) | rfl
def Q_rm1 (Z : State) (a1_0 : Addr) (pa : Addr) (sg : Addr) (pr : Addr) (h0 : Heap) (n0 : Nat) (v : Option Value) (h : Heap) (L : List Loc) : Prop := v = none ∧ Fr n0 L ∧ Keep h0 h [a1_0] ∧ (Fld Z h a1_0 "com/example/arbiter/arbiter/NodeRule" "propagation" "Lcom/example/arbiter/arbiter/NodeRule$Propagation;" (.ref pr))
set_option maxRecDepth 65536 in
set_option maxHeartbeats 40000000 in
theorem rm1 (l : Launch) (Z : State) (a0 : Array Value) (hw : ∀ d ∈ tables_1, d.before a0 Z = true) (ws : List Jvm.Cond) (a1_0 : Addr) (pa : Addr) (sg : Addr) (pr : Addr) (h0 : Heap) (n0 : Nat) (Z0 : n0 ≤ h0.size) (pf_E_a1_0 : Exa Z h0 a1_0 "com/example/arbiter/arbiter/NodeRule") (pf_G_a1_0 : n0 ≤ a1_0) (pf_F_a1_0_path : Fld Z h0 a1_0 "com/example/arbiter/arbiter/NodeRule" "path" "Ljava/lang/String;" .null) (pf_F_a1_0_operation : Fld Z h0 a1_0 "com/example/arbiter/arbiter/NodeRule" "operation" "Lcom/example/arbiter/arbiter/DocumentOperation;" .null) (pf_F_a1_0_sign : Fld Z h0 a1_0 "com/example/arbiter/arbiter/NodeRule" "sign" "Lcom/example/arbiter/arbiter/NodeRule$Sign;" .null) (pf_F_a1_0_propagation : Fld Z h0 a1_0 "com/example/arbiter/arbiter/NodeRule" "propagation" "Lcom/example/arbiter/arbiter/NodeRule$Propagation;" .null) :
    MetFree l (⟨"com/example/arbiter/arbiter/NodeRule", "<init>", "(Ljava/lang/String;Lcom/example/arbiter/arbiter/DocumentOperation;Lcom/example/arbiter/arbiter/NodeRule$Sign;Lcom/example/arbiter/arbiter/NodeRule$Propagation;)V"⟩ : MethodName) (head1 (Jvm.Cond.code (⟨"com/example/arbiter/arbiter/NodeRule", "<init>", "(Ljava/lang/String;Lcom/example/arbiter/arbiter/DocumentOperation;Lcom/example/arbiter/arbiter/NodeRule$Sign;Lcom/example/arbiter/arbiter/NodeRule$Propagation;)V"⟩ : MethodName) prog_22_method_1_code 5 none :: ws) ({ frames := 1, cells := 0, slots := 0, locals := 12 } : Room)) (fun a U => a = #[(.ref a1_0), (.ref pa), .null, (.ref sg), (.ref pr)] ∧ Z.Warmed39 U.vm ∧ U.heap = h0) (fun _ _ _ _ _ => True) (fun _ U o U' => ∃ v L, o = .returned v ∧ Q_rm1 Z a1_0 pa sg pr h0 n0 v U'.heap L ∧ FrameEnd U o U' L ({ frames := 1, cells := 0, slots := 0, locals := 12 } : Room).cells ({ frames := 1, cells := 0, slots := 0, locals := 12 } : Room).slots) := by
  refine MetFree.of_bodySF (plainFor_of_name pn_com_example_arbiter_arbiter_NodeRule) hisR ?_
  intro p e s m args below meth c s₁ Bd hml0 hP hK
  obtain ⟨rfl, hZ, hh⟩ := hP
  have hx := Bd.exec
  have hby := Bd.bytes
  have hml : c.maxLocals = 5 := hml0
  have hown : s.vm.findClass "com/example/arbiter/arbiter/NodeRule" = some m.cls := findClass_of_methodNamed Bd.named
  have hnm := (name_of_methodNamed Bd.named Bd.method).1
  have X0 : Stand p l e ({ frames := 1, cells := 0, slots := 0, locals := 12 } : Room) s m #[(.ref a1_0), (.ref pa), .null, (.ref sg), (.ref pr)] below meth c s₁ [] 0 0 := Stand.of_body Bd
  have e0 : s₁.heap = h0 := by rw [← hh, Bd.state]; rfl
  have N0 := Fr.nil n0
  have pre0 : ∀ t, Steps p.tables e below (s₁.setTop (mkF m 0 #[rv a1_0, rv pa, .val .null, rv sg, rv pr] [])) t → Steps p.tables e below (s₁.setTop (entryFrame m #[(.ref a1_0), (.ref pa), .null, (.ref sg), (.ref pr)] 5)) t := fun t k => castTop (ef_rm1 m a1_0 pa sg pr) k
  have wo8 := hw _ (List.mem_of_getElem? (i := 8) rfl)
  have wo21 := hw _ (List.mem_of_getElem? (i := 21) rfl)
  have wo22 := hw _ (List.mem_of_getElem? (i := 22) rfl)
  have wo23 := hw _ (List.mem_of_getElem? (i := 23) rfl)
  have wo24 := hw _ (List.mem_of_getElem? (i := 24) rfl)
  have wo25 := hw _ (List.mem_of_getElem? (i := 25) rfl)
  have wo26 := hw _ (List.mem_of_getElem? (i := 26) rfl)
  have wo27 := hw _ (List.mem_of_getElem? (i := 27) rfl)
  have wo28 := hw _ (List.mem_of_getElem? (i := 28) rfl)
  have wo29 := hw _ (List.mem_of_getElem? (i := 29) rfl)
  have wo30 := hw _ (List.mem_of_getElem? (i := 30) rfl)
  have wo31 := hw _ (List.mem_of_getElem? (i := 31) rfl)
  obtain ⟨T1, X1, e1, st1⟩ := initO X0 hx hZ hown wo21 wo22 wo23 e0 (g := (mkF m 1 #[rv a1_0, rv pa, .val .null, rv sg, rv pr] [(.ref a1_0)])) rfl (by rw [hml]; rfl) rfl (hb hby d1_1) (by decide) (W := 0) (by show 2 * 0 + _ ≤ _; exact Nat.le_of_eq rfl) (by decide)
  obtain ⟨T2, h2, X2, e2, W2, st2⟩ := putF X1 hx hZ hown (host := "") (Or.inl wo24) Via.refl e1 pf_F_a1_0_path pf_E_a1_0 (Or.inr ⟨wo25, rfl, hnm⟩) wo8 (ty := (.object "java/lang/String")) (by decide) rfl rfl (g := (mkF m 6 #[rv a1_0, rv pa, .val .null, rv sg, rv pr] [(.ref pa), (.ref a1_0)])) rfl rfl (hb hby d1_6)
  have K3 : Keep h0 h2 [a1_0] := (Keep.refl h0 [a1_0]).wr W2 (Or.inl (List.mem_of_getElem? (i := 0) rfl))
  have f4 : Fld Z h2 a1_0 "com/example/arbiter/arbiter/NodeRule" "path" "Ljava/lang/String;" (.ref pa) := pf_F_a1_0_path.same W2
  have N5 := Fr.snoc X2 N0 pf_G_a1_0
  have f6 := (pf_F_a1_0_operation.other W2 (Or.inr (slot_ne (Or.inr wo27) (Or.inr wo25) (by decide) (t := (.object "com/example/arbiter/arbiter/DocumentOperation")) (t' := (.object "java/lang/String")) (by decide) (by decide))))
  have f7 := (pf_E_a1_0.wr W2)
  obtain ⟨T8, h8, X8, e8, W8, st8⟩ := putF X2 hx hZ hown (host := "") (Or.inl wo26) Via.refl e2 f6 f7 (Or.inr ⟨wo27, rfl, hnm⟩) wo8 (ty := (.object "com/example/arbiter/arbiter/DocumentOperation")) (by decide) rfl rfl (g := (mkF m 11 #[rv a1_0, rv pa, .val .null, rv sg, rv pr] [.null, (.ref a1_0)])) rfl rfl (hb hby d1_11)
  have K9 : Keep h0 h8 [a1_0] := (K3).wr W8 (Or.inl (List.mem_of_getElem? (i := 0) rfl))
  have f10 : Fld Z h8 a1_0 "com/example/arbiter/arbiter/NodeRule" "operation" "Lcom/example/arbiter/arbiter/DocumentOperation;" .null := f6.same W8
  have N11 := Fr.snoc X8 N5 pf_G_a1_0
  have f12 := ((pf_F_a1_0_sign.other W2 (Or.inr (slot_ne (Or.inr wo29) (Or.inr wo25) (by decide) (t := (.object "com/example/arbiter/arbiter/NodeRule$Sign")) (t' := (.object "java/lang/String")) (by decide) (by decide)))).other W8 (Or.inr (slot_ne (Or.inr wo29) (Or.inr wo27) (by decide) (t := (.object "com/example/arbiter/arbiter/NodeRule$Sign")) (t' := (.object "com/example/arbiter/arbiter/DocumentOperation")) (by decide) (by decide))))
  have f13 := (f7.wr W8)
  obtain ⟨T14, h14, X14, e14, W14, st14⟩ := putF X8 hx hZ hown (host := "") (Or.inl wo28) Via.refl e8 f12 f13 (Or.inr ⟨wo29, rfl, hnm⟩) wo8 (ty := (.object "com/example/arbiter/arbiter/NodeRule$Sign")) (by decide) rfl rfl (g := (mkF m 16 #[rv a1_0, rv pa, .val .null, rv sg, rv pr] [(.ref sg), (.ref a1_0)])) rfl rfl (hb hby d1_16)
  have K15 : Keep h0 h14 [a1_0] := (K9).wr W14 (Or.inl (List.mem_of_getElem? (i := 0) rfl))
  have f16 : Fld Z h14 a1_0 "com/example/arbiter/arbiter/NodeRule" "sign" "Lcom/example/arbiter/arbiter/NodeRule$Sign;" (.ref sg) := f12.same W14
  have N17 := Fr.snoc X14 N11 pf_G_a1_0
  have f18 := (((pf_F_a1_0_propagation.other W2 (Or.inr (slot_ne (Or.inr wo31) (Or.inr wo25) (by decide) (t := (.object "com/example/arbiter/arbiter/NodeRule$Propagation")) (t' := (.object "java/lang/String")) (by decide) (by decide)))).other W8 (Or.inr (slot_ne (Or.inr wo31) (Or.inr wo27) (by decide) (t := (.object "com/example/arbiter/arbiter/NodeRule$Propagation")) (t' := (.object "com/example/arbiter/arbiter/DocumentOperation")) (by decide) (by decide)))).other W14 (Or.inr (slot_ne (Or.inr wo31) (Or.inr wo29) (by decide) (t := (.object "com/example/arbiter/arbiter/NodeRule$Propagation")) (t' := (.object "com/example/arbiter/arbiter/NodeRule$Sign")) (by decide) (by decide))))
  have f19 := (f13.wr W14)
  obtain ⟨T20, h20, X20, e20, W20, st20⟩ := putF X14 hx hZ hown (host := "") (Or.inl wo30) Via.refl e14 f18 f19 (Or.inr ⟨wo31, rfl, hnm⟩) wo8 (ty := (.object "com/example/arbiter/arbiter/NodeRule$Propagation")) (by decide) rfl rfl (g := (mkF m 22 #[rv a1_0, rv pa, .val .null, rv sg, rv pr] [(.ref pr), (.ref a1_0)])) rfl rfl (hb hby d1_22)
  have K21 : Keep h0 h20 [a1_0] := (K15).wr W20 (Or.inl (List.mem_of_getElem? (i := 0) rfl))
  have f22 : Fld Z h20 a1_0 "com/example/arbiter/arbiter/NodeRule" "propagation" "Lcom/example/arbiter/arbiter/NodeRule$Propagation;" (.ref pr) := f18.same W20
  have N23 := Fr.snoc X20 N17 pf_G_a1_0
  obtain ⟨fs, hr, hrun, hended, hW, hsame⟩ := X20.leave (v := none) (fun _ => rfl)
  refine ⟨_, _, pre0 _ ?_, hrun, hended, _, _, rfl, ?_, ⟨_, rfl⟩, hW, hsame.mono (by decide) (by decide)⟩
  · show Steps p.tables e below (s₁.setTop (mkF m 0 #[rv a1_0, rv pa, .val .null, rv sg, rv pr] [])) _
    refine XS.aloadN X0.here hx rfl (hb hby d1_0) rfl rfl ?_
    show Steps p.tables e below (s₁.setTop (mkF m 1 #[rv a1_0, rv pa, .val .null, rv sg, rv pr] [(.ref a1_0)])) _
    refine st1 _ ?_
    show Steps p.tables e below (T1.setTop (mkF m 4 #[rv a1_0, rv pa, .val .null, rv sg, rv pr] [])) _
    refine XS.aloadN X1.here hx rfl (hb hby d1_4) rfl rfl ?_
    show Steps p.tables e below (T1.setTop (mkF m 5 #[rv a1_0, rv pa, .val .null, rv sg, rv pr] [(.ref a1_0)])) _
    refine XS.aloadN X1.here hx rfl (hb hby d1_5) rfl rfl ?_
    show Steps p.tables e below (T1.setTop (mkF m 6 #[rv a1_0, rv pa, .val .null, rv sg, rv pr] [(.ref pa), (.ref a1_0)])) _
    refine st2 _ ?_
    show Steps p.tables e below (T2.setTop (mkF m 9 #[rv a1_0, rv pa, .val .null, rv sg, rv pr] [])) _
    refine XS.aloadN X2.here hx rfl (hb hby d1_9) rfl rfl ?_
    show Steps p.tables e below (T2.setTop (mkF m 10 #[rv a1_0, rv pa, .val .null, rv sg, rv pr] [(.ref a1_0)])) _
    refine XS.aloadN X2.here hx rfl (hb hby d1_10) rfl rfl ?_
    show Steps p.tables e below (T2.setTop (mkF m 11 #[rv a1_0, rv pa, .val .null, rv sg, rv pr] [.null, (.ref a1_0)])) _
    refine st8 _ ?_
    show Steps p.tables e below (T8.setTop (mkF m 14 #[rv a1_0, rv pa, .val .null, rv sg, rv pr] [])) _
    refine XS.aloadN X8.here hx rfl (hb hby d1_14) rfl rfl ?_
    show Steps p.tables e below (T8.setTop (mkF m 15 #[rv a1_0, rv pa, .val .null, rv sg, rv pr] [(.ref a1_0)])) _
    refine XS.aloadN X8.here hx rfl (hb hby d1_15) rfl rfl ?_
    show Steps p.tables e below (T8.setTop (mkF m 16 #[rv a1_0, rv pa, .val .null, rv sg, rv pr] [(.ref sg), (.ref a1_0)])) _
    refine st14 _ ?_
    show Steps p.tables e below (T14.setTop (mkF m 19 #[rv a1_0, rv pa, .val .null, rv sg, rv pr] [])) _
    refine XS.aloadN X14.here hx rfl (hb hby d1_19) rfl rfl ?_
    show Steps p.tables e below (T14.setTop (mkF m 20 #[rv a1_0, rv pa, .val .null, rv sg, rv pr] [(.ref a1_0)])) _
    refine XS.aload X14.here hx rfl (hb hby d1_20) rfl rfl ?_
    show Steps p.tables e below (T14.setTop (mkF m 22 #[rv a1_0, rv pa, .val .null, rv sg, rv pr] [(.ref pr), (.ref a1_0)])) _
    refine st20 _ ?_
    show Steps p.tables e below (T20.setTop (mkF m 25 #[rv a1_0, rv pa, .val .null, rv sg, rv pr] [])) _
    exact X20.returnOut hx Bd.returns (hb hby d1_25) hr
  · show Q_rm1 Z _ _ _ _ h0 n0 _ T20.heap _
    rw [e20]
    exact ⟨rfl, N23, (K21), f22⟩
theorem d3_0 : decode prog_22_method_4_code 0 = .ok (.iload_n 1, 1) := by decide +kernel
theorem d3_1 : decode prog_22_method_4_code 1 = .ok (.aload_n 0, 1) := by decide +kernel
theorem d3_2 : decode prog_22_method_4_code 2 = .ok (.getfield 21, 3) := by decide +kernel
theorem own_getFR {p : Program} {l : Launch} {e : Env} {R : Room} {s : State} {m : MethodId} {args : Array Value} {below : List Frame} {meth : Method} {c : Code} {T : State} {locs : List Loc} {cells slots : Nat} {Z : State} {a0 : Array Value} {h : Heap}
    (X : Stand p l e R s m args below meth c T locs cells slots) (hx : p.tables.exec = Jvm.exec) (hZ : Z.Warmed39 s.vm) {own R0 n d : String} {index : Nat} (hown : s.vm.findClass own = some m.cls) (w : (Jvm.Cond.fieldRef own index R0 n d).before a0 Z = true)
    (eT : T.heap = h) {a : Addr} {v : Value} (F : Fld Z h a R0 n d v) {g : JFrame} (hg : g.method = m) {rest : List Value} (hs : g.stack = .ref a :: rest) (hd : decode c.code g.pc = .ok (.getfield index, 3)) :
    ∀ target, Steps p.tables e below (T.setTop { g with pc := g.pc + 3, stack := v :: rest }) target → Steps p.tables e below (T.setTop g) target := by
  intro target hr
  obtain ⟨cell, cf, k, i, f, h1, h2, h3, h4, h5, h6, h7⟩ := F
  have hT : Z.Warmed39 T.vm := wtrans hZ X.warmed
  have w' := Cond.fieldRef_warmed39 hT w
  have hoT : (Z.setVm T.vm).vm.findClass own = some m.cls := by
    show T.vm.findClass own = some m.cls
    rw [X.warmed.alike.findClass]; exact hown
  obtain ⟨c', k', i', f', hf, hready⟩ := Cond.fieldRef_spec hoT w'
  obtain ⟨k2, hf2, -⟩ := State.fieldFound?_setVm (s := Z) hT.alike h2
  cases hf.symm.trans hf2
  have hcell : T.heap[a]? = some cell := by rw [eT]; exact h1
  subst hg
  jvm_step X.here [hx, hd, getfield.wp_ready (e := e) (s := T) (f := g) X.here.top hready h3 hs hcell h4 h7]
  exact hr
theorem d3_5 : decode prog_22_method_4_code 5 = .ok (.getfield 83, 3) := by decide +kernel
theorem d3_8 : decode prog_22_method_4_code 8 = .ok (.if_icmp .gt 7, 3) := by decide +kernel
theorem d3_15 : decode prog_22_method_4_code 15 = .ok (.iconst 0, 1) := by decide +kernel
theorem d3_16 : decode prog_22_method_4_code 16 = .ok (.ireturn, 1) := by decide +kernel
theorem d3_11 : decode prog_22_method_4_code 11 = .ok (.iconst 1, 1) := by decide +kernel
theorem d3_12 : decode prog_22_method_4_code 12 = .ok (.goto 4, 3) := by decide +kernel
theorem ef_rm3 (m : MethodId) (x0 : Addr) (x1 : Int32) : entryFrame m #[(.ref x0), (.int x1)] 2 = mkF m 0 #[rv x0, iv x1] [] := by first | (simp [entryFrame, mkF, argsToLocals, Value.category]; done) | rfl
def Q_rm3 (Z : State) (a3_0 : Addr) (lv : Int32) (pr : Addr) (pl : Int32) (h0 : Heap) (n0 : Nat) (v : Option Value) (h : Heap) (L : List Loc) : Prop := v = some (.int (if pl < lv then (0 : Int32) else (1 : Int32))) ∧ Fr n0 L ∧ h = h0
set_option maxRecDepth 65536 in
set_option maxHeartbeats 40000000 in
theorem rm3 (l : Launch) (Z : State) (a0 : Array Value) (hw : ∀ d ∈ tables_1, d.before a0 Z = true) (ws : List Jvm.Cond) (a3_0 : Addr) (lv : Int32) (pr : Addr) (pl : Int32) (h0 : Heap) (n0 : Nat) (Z0 : n0 ≤ h0.size) (pf_F_a3_0_propagation : Fld Z h0 a3_0 "com/example/arbiter/arbiter/NodeRule" "propagation" "Lcom/example/arbiter/arbiter/NodeRule$Propagation;" (.ref pr)) (pf_F_pr_levels : Fld Z h0 pr "com/example/arbiter/arbiter/NodeRule$Propagation" "levels" "I" (.int pl)) :
    MetFree l (⟨"com/example/arbiter/arbiter/NodeRule", "covers", "(I)Z"⟩ : MethodName) (head1 (Jvm.Cond.code (⟨"com/example/arbiter/arbiter/NodeRule", "covers", "(I)Z"⟩ : MethodName) prog_22_method_4_code 2 (some .boolean) :: ws) ({ frames := 0, cells := 0, slots := 0, locals := 0 } : Room)) (fun a U => a = #[(.ref a3_0), (.int lv)] ∧ Z.Warmed39 U.vm ∧ U.heap = h0) (fun _ _ _ _ _ => True) (fun _ U o U' => ∃ v L, o = .returned v ∧ Q_rm3 Z a3_0 lv pr pl h0 n0 v U'.heap L ∧ FrameEnd U o U' L ({ frames := 0, cells := 0, slots := 0, locals := 0 } : Room).cells ({ frames := 0, cells := 0, slots := 0, locals := 0 } : Room).slots) := by
  refine MetFree.of_bodySF (plainFor_of_name pn_com_example_arbiter_arbiter_NodeRule) hisR ?_
  intro p e s m args below meth c s₁ Bd hml0 hP hK
  obtain ⟨rfl, hZ, hh⟩ := hP
  have hx := Bd.exec
  have hby := Bd.bytes
  have hml : c.maxLocals = 2 := hml0
  have hown : s.vm.findClass "com/example/arbiter/arbiter/NodeRule" = some m.cls := findClass_of_methodNamed Bd.named
  have hnm := (name_of_methodNamed Bd.named Bd.method).1
  have X0 : Stand p l e ({ frames := 0, cells := 0, slots := 0, locals := 0 } : Room) s m #[(.ref a3_0), (.int lv)] below meth c s₁ [] 0 0 := Stand.of_body Bd
  have e0 : s₁.heap = h0 := by rw [← hh, Bd.state]; rfl
  have N0 := Fr.nil n0
  have pre0 : ∀ t, Steps p.tables e below (s₁.setTop (mkF m 0 #[rv a3_0, iv lv] [])) t → Steps p.tables e below (s₁.setTop (entryFrame m #[(.ref a3_0), (.int lv)] 2)) t := fun t k => castTop (ef_rm3 m a3_0 lv) k
  have wo30 := hw _ (List.mem_of_getElem? (i := 30) rfl)
  have wo37 := hw _ (List.mem_of_getElem? (i := 37) rfl)
  obtain ⟨T1, X1, e1, st1⟩ := getF X0 hx hZ hown (host := "") (Or.inl wo30) Via.refl e0 pf_F_a3_0_propagation (g := (mkF m 2 #[rv a3_0, iv lv] [(.ref a3_0), (.int lv)])) rfl rfl (hb hby d3_2)
  have pre3 : ∀ t, Steps p.tables e below (T1.setTop (mkF m 8 #[rv a3_0, iv lv] [(.int pl), (.int lv)])) t → Steps p.tables e below (s₁.setTop (entryFrame m #[(.ref a3_0), (.int lv)] 2)) t := by
    intro t_ k_
    refine pre0 _ ?_
    show Steps p.tables e below (s₁.setTop (mkF m 0 #[rv a3_0, iv lv] [])) _
    refine XS.iloadN X0.here hx rfl (hb hby d3_0) rfl ?_
    show Steps p.tables e below (s₁.setTop (mkF m 1 #[rv a3_0, iv lv] [(.int lv)])) _
    refine XS.aloadN X0.here hx rfl (hb hby d3_1) rfl rfl ?_
    show Steps p.tables e below (s₁.setTop (mkF m 2 #[rv a3_0, iv lv] [(.ref a3_0), (.int lv)])) _
    refine st1 _ ?_
    show Steps p.tables e below (T1.setTop (mkF m 5 #[rv a3_0, iv lv] [(.ref pr), (.int lv)])) _
    refine own_getFR X1 hx hZ hown wo37 e1 pf_F_pr_levels (g := (mkF m 5 #[rv a3_0, iv lv] [(.ref pr), (.int lv)])) rfl rfl (hb hby d3_5) _ ?_
    exact k_
  by_cases hc8_2 : pl < lv
  · skip
    obtain ⟨fs, hr, hrun, hended, hW, hsame⟩ := X1.leave (v := some (.int (0 : Int32))) (fun h => by rw [Bd.returns] at h; cases h)
    refine ⟨_, _, pre3 _ ?_, hrun, hended, _, _, rfl, ?_, ⟨_, rfl⟩, hW, hsame.mono (by decide) (by decide)⟩
    · show Steps p.tables e below (T1.setTop (mkF m 8 #[rv a3_0, iv lv] [(.int pl), (.int lv)])) _
      refine XS.icmpYes X1.here hx rfl (pc0 := 8) (pc' := 15) rfl (hb hby d3_8) rfl (tlt hc8_2).2.2.1 (by decide) (by decide) ?_
      show Steps p.tables e below (T1.setTop (mkF m 15 #[rv a3_0, iv lv] [])) _
      refine XS.iconst X1.here hx rfl (hb hby d3_15) ?_
      show Steps p.tables e below (T1.setTop (mkF m 16 #[rv a3_0, iv lv] [(.int (0 : Int32))])) _
      exact retN X1 hx (t := .boolean) Bd.returns (by simp) (hb hby d3_16) hr
    · show Q_rm3 Z _ _ _ _ h0 n0 _ T1.heap _
      rw [e1]
      exact ⟨(by first | rfl | (simp [*]; done) | (simp_all; done)), N0, rfl⟩
  · skip
    obtain ⟨fs, hr, hrun, hended, hW, hsame⟩ := X1.leave (v := some (.int (1 : Int32))) (fun h => by rw [Bd.returns] at h; cases h)
    refine ⟨_, _, pre3 _ ?_, hrun, hended, _, _, rfl, ?_, ⟨_, rfl⟩, hW, hsame.mono (by decide) (by decide)⟩
    · show Steps p.tables e below (T1.setTop (mkF m 8 #[rv a3_0, iv lv] [(.int pl), (.int lv)])) _
      refine XS.icmpNo X1.here hx rfl (hb hby d3_8) rfl (flt hc8_2).2.2.1 ?_
      show Steps p.tables e below (T1.setTop (mkF m 11 #[rv a3_0, iv lv] [])) _
      refine XS.iconst X1.here hx rfl (hb hby d3_11) ?_
      show Steps p.tables e below (T1.setTop (mkF m 12 #[rv a3_0, iv lv] [(.int (1 : Int32))])) _
      refine XS.goto X1.here hx rfl (pc0 := 12) (pc' := 16) rfl (hb hby d3_12) (by decide) (by decide) ?_
      show Steps p.tables e below (T1.setTop (mkF m 16 #[rv a3_0, iv lv] [(.int (1 : Int32))])) _
      exact retN X1 hx (t := .boolean) Bd.returns (by simp) (hb hby d3_16) hr
    · show Q_rm3 Z _ _ _ _ h0 n0 _ T1.heap _
      rw [e1]
      exact ⟨(by first | rfl | (simp [*]; done) | (simp_all; done)), N0, rfl⟩
theorem pd_2 : parseMethodDescriptor "(Ljava/lang/String;Lcom/example/arbiter/arbiter/DocumentOperation;Lcom/example/arbiter/arbiter/NodeRule$Sign;Lcom/example/arbiter/arbiter/NodeRule$Propagation;)V" = some ⟨[(.object "java/lang/String"), (.object "com/example/arbiter/arbiter/DocumentOperation"), (.object "com/example/arbiter/arbiter/NodeRule$Sign"), (.object "com/example/arbiter/arbiter/NodeRule$Propagation")], none⟩ := by decide +kernel
theorem pd_1 : parseMethodDescriptor "(I)Z" = some ⟨[.int], some .boolean⟩ := by decide +kernel
theorem pn_com_example_arbiter_arbiter_NodeRuleCoversPinLaw : plainName "com/example/arbiter/arbiter/NodeRuleCoversPinLaw" = true := by first | (simp [plainName, overriddenIn]; done) | decide +kernel
theorem ef_rm0 (m : MethodId) (x0 : Int32) (x1 : Int32) (x2 : Int32) (x3 : Int32) : entryFrame m #[(.int x0), (.int x1), (.int x2), (.int x3)] maxLocals = mkF m 0 #[iv x0, iv x1, iv x2, iv x3, .unset, .unset, .unset, .unset, .unset, .unset] [] := by first | (simp [entryFrame, mkF, argsToLocals, Value.category, maxLocals]; done) | rfl
def Q_rm0 (Z : State) (p0_0 : Int32) (p0_1 : Int32) (p0_2 : Int32) (p0_3 : Int32) (s_NO_PROP : Addr) (s_GRANT : Addr) (s_FIRST_LEVEL : Addr) (s_DENY : Addr) (s_CASCADE : Addr) (h0 : Heap) (n0 : Nat) (v : Option Value) (h : Heap) (L : List Loc) : Prop := v = some (.int (1 : Int32)) ∧ Fr n0 L ∧ Keep h0 h []
def own_FE (s : State) (o : Outcome) (t : State) (L : List Loc) (k n : Nat) : Prop := s.Warmed39 t.vm ∧ (∀ (j : Nat) (p : Array UInt16 × Addr), s.vm.interned.size ≤ j → t.vm.interned[j]? = some p → s.heap.size ≤ p.2 ∧ p.2 < t.heap.size) ∧ s.sameButNew { t with vm := s.vm } L k n
set_option maxRecDepth 65536 in
set_option maxHeartbeats 40000000 in
theorem rm0 (l : Launch) (Z : State) (a0 : Array Value) (hw : ∀ d ∈ tables_1, d.before a0 Z = true) (ws : List Jvm.Cond) (p0_0 : Int32) (p0_1 : Int32) (p0_2 : Int32) (p0_3 : Int32) (s_NO_PROP : Addr) (s_GRANT : Addr) (s_FIRST_LEVEL : Addr) (s_DENY : Addr) (s_CASCADE : Addr) (h0 : Heap) (n0 : Nat) (Z0 : n0 ≤ h0.size) (pf_O : Old Z n0 h0) (pf_S_com_example_arbiter_arbiter_NodeRule_Propagation_NO_PROP : Sta Z Z.heap "com/example/arbiter/arbiter/NodeRule$Propagation" "NO_PROP" "Lcom/example/arbiter/arbiter/NodeRule$Propagation;" (.ref s_NO_PROP)) (pf_E_s_NO_PROP : Exa Z h0 s_NO_PROP "com/example/arbiter/arbiter/NodeRule$Propagation") (pf_S_com_example_arbiter_arbiter_NodeRule_Sign_GRANT : Sta Z Z.heap "com/example/arbiter/arbiter/NodeRule$Sign" "GRANT" "Lcom/example/arbiter/arbiter/NodeRule$Sign;" (.ref s_GRANT)) (pf_E_s_GRANT : Exa Z h0 s_GRANT "com/example/arbiter/arbiter/NodeRule$Sign") (pf_F_s_NO_PROP_levels : Fld Z h0 s_NO_PROP "com/example/arbiter/arbiter/NodeRule$Propagation" "levels" "I" (.int (0 : Int32))) (pf_S_com_example_arbiter_arbiter_NodeRule_Propagation_FIRST_LEVEL : Sta Z Z.heap "com/example/arbiter/arbiter/NodeRule$Propagation" "FIRST_LEVEL" "Lcom/example/arbiter/arbiter/NodeRule$Propagation;" (.ref s_FIRST_LEVEL)) (pf_E_s_FIRST_LEVEL : Exa Z h0 s_FIRST_LEVEL "com/example/arbiter/arbiter/NodeRule$Propagation") (pf_F_s_FIRST_LEVEL_levels : Fld Z h0 s_FIRST_LEVEL "com/example/arbiter/arbiter/NodeRule$Propagation" "levels" "I" (.int (1 : Int32))) (pf_S_com_example_arbiter_arbiter_NodeRule_Sign_DENY : Sta Z Z.heap "com/example/arbiter/arbiter/NodeRule$Sign" "DENY" "Lcom/example/arbiter/arbiter/NodeRule$Sign;" (.ref s_DENY)) (pf_E_s_DENY : Exa Z h0 s_DENY "com/example/arbiter/arbiter/NodeRule$Sign") (pf_S_com_example_arbiter_arbiter_NodeRule_Propagation_CASCADE : Sta Z Z.heap "com/example/arbiter/arbiter/NodeRule$Propagation" "CASCADE" "Lcom/example/arbiter/arbiter/NodeRule$Propagation;" (.ref s_CASCADE)) (pf_E_s_CASCADE : Exa Z h0 s_CASCADE "com/example/arbiter/arbiter/NodeRule$Propagation") (pf_F_s_CASCADE_levels : Fld Z h0 s_CASCADE "com/example/arbiter/arbiter/NodeRule$Propagation" "levels" "I" (.int (2147483647 : Int32))) :
    MetFree l x (head1 (Jvm.Cond.code x code maxLocals ret :: ws) room_1) (fun a U => a = #[(.int p0_0), (.int p0_1), (.int p0_2), (.int p0_3)] ∧ Z.Warmed39 U.vm ∧ U.heap = h0) (fun _ _ _ _ _ => True) (fun _ U o U' => ∃ v L, o = .returned v ∧ Q_rm0 Z p0_0 p0_1 p0_2 p0_3 s_NO_PROP s_GRANT s_FIRST_LEVEL s_DENY s_CASCADE h0 n0 v U'.heap L ∧ own_FE U o U' L room_1.cells room_1.slots) := by
  refine MetFree.of_bodySF (plainFor_of_name pn_com_example_arbiter_arbiter_NodeRuleCoversPinLaw) hisR ?_
  intro p e s m args below meth c s₁ Bd hml0 hP hK
  obtain ⟨rfl, hZ, hh⟩ := hP
  have hx := Bd.exec
  have hby := Bd.bytes
  have hml : c.maxLocals = 10 := hml0
  have hown : s.vm.findClass "com/example/arbiter/arbiter/NodeRuleCoversPinLaw" = some m.cls := findClass_of_methodNamed Bd.named
  have hnm := (name_of_methodNamed Bd.named Bd.method).1
  have X0 : Stand p l e room_1 s m #[(.int p0_0), (.int p0_1), (.int p0_2), (.int p0_3)] below meth c s₁ [] 0 0 := Stand.of_body Bd
  have e0 : s₁.heap = h0 := by rw [← hh, Bd.state]; rfl
  have N0 := Fr.nil n0
  have pre0 : ∀ t, Steps p.tables e below (s₁.setTop (mkF m 0 #[iv p0_0, iv p0_1, iv p0_2, iv p0_3, .unset, .unset, .unset, .unset, .unset, .unset] [])) t → Steps p.tables e below (s₁.setTop (entryFrame m #[(.int p0_0), (.int p0_1), (.int p0_2), (.int p0_3)] maxLocals)) t := fun t k => castTop (ef_rm0 m p0_0 p0_1 p0_2 p0_3) k
  have wo0 := hw _ (List.mem_of_getElem? (i := 0) rfl)
  have wo1 := hw _ (List.mem_of_getElem? (i := 1) rfl)
  have wo4 := hw _ (List.mem_of_getElem? (i := 4) rfl)
  have wo7 := hw _ (List.mem_of_getElem? (i := 7) rfl)
  have wo8 := hw _ (List.mem_of_getElem? (i := 8) rfl)
  have wo9 := hw _ (List.mem_of_getElem? (i := 9) rfl)
  have wo10 := hw _ (List.mem_of_getElem? (i := 10) rfl)
  have wo18 := hw _ (List.mem_of_getElem? (i := 18) rfl)
  have wo19 := hw _ (List.mem_of_getElem? (i := 19) rfl)
  have wo20 := hw _ (List.mem_of_getElem? (i := 20) rfl)
  have wo25 := hw _ (List.mem_of_getElem? (i := 25) rfl)
  have wo27 := hw _ (List.mem_of_getElem? (i := 27) rfl)
  have wo29 := hw _ (List.mem_of_getElem? (i := 29) rfl)
  have wo31 := hw _ (List.mem_of_getElem? (i := 31) rfl)
  have wo32 := hw _ (List.mem_of_getElem? (i := 32) rfl)
  have wo33 := hw _ (List.mem_of_getElem? (i := 33) rfl)
  have wo34 := hw _ (List.mem_of_getElem? (i := 34) rfl)
  have wo35 := hw _ (List.mem_of_getElem? (i := 35) rfl)
  have wo36 := hw _ (List.mem_of_getElem? (i := 36) rfl)
  have wo39 := hw _ (List.mem_of_getElem? (i := 39) rfl)
  have wo41 := hw _ (List.mem_of_getElem? (i := 41) rfl)
  have wo43 := hw _ (List.mem_of_getElem? (i := 43) rfl)
  obtain ⟨ww, h_ww⟩ : ∃ z : Int32, z = ((p0_0 &&& (2147483647 : Int32)) % (3 : Int32)) := ⟨_, rfl⟩
  have pre1 : ∀ t, Steps p.tables e below (s₁.setTop (mkF m 8 #[iv p0_0, iv p0_1, iv p0_2, iv p0_3, iv ww, .unset, .unset, .unset, .unset, .unset] [])) t → Steps p.tables e below (s₁.setTop (entryFrame m #[(.int p0_0), (.int p0_1), (.int p0_2), (.int p0_3)] maxLocals)) t := by
    intro t_ k_
    refine pre0 _ ?_
    show Steps p.tables e below (s₁.setTop (mkF m 0 #[iv p0_0, iv p0_1, iv p0_2, iv p0_3, .unset, .unset, .unset, .unset, .unset, .unset] [])) _
    refine XS.iloadN X0.here hx rfl (hb hby at_0) rfl ?_
    show Steps p.tables e below (s₁.setTop (mkF m 1 #[iv p0_0, iv p0_1, iv p0_2, iv p0_3, .unset, .unset, .unset, .unset, .unset, .unset] [(.int p0_0)])) _
    refine X0.ldcInt hx hown (mvT hZ wo0) (g := (mkF m 1 #[iv p0_0, iv p0_1, iv p0_2, iv p0_3, .unset, .unset, .unset, .unset, .unset, .unset] [(.int p0_0)])) rfl (hb hby at_1) _ ?_
    show Steps p.tables e below (s₁.setTop (mkF m 3 #[iv p0_0, iv p0_1, iv p0_2, iv p0_3, .unset, .unset, .unset, .unset, .unset, .unset] [(.int (2147483647 : Int32)), (.int p0_0)])) _
    refine XS.iand X0.here hx rfl (hb hby at_3) rfl ?_
    show Steps p.tables e below (s₁.setTop (mkF m 4 #[iv p0_0, iv p0_1, iv p0_2, iv p0_3, .unset, .unset, .unset, .unset, .unset, .unset] [(.int (p0_0 &&& (2147483647 : Int32)))])) _
    refine XS.iconst X0.here hx rfl (hb hby at_4) ?_
    show Steps p.tables e below (s₁.setTop (mkF m 5 #[iv p0_0, iv p0_1, iv p0_2, iv p0_3, .unset, .unset, .unset, .unset, .unset, .unset] [(.int (3 : Int32)), (.int (p0_0 &&& (2147483647 : Int32)))])) _
    refine iremM (g := (mkF m 5 #[iv p0_0, iv p0_1, iv p0_2, iv p0_3, .unset, .unset, .unset, .unset, .unset, .unset] [(.int (3 : Int32)), (.int (p0_0 &&& (2147483647 : Int32)))])) X0 hx rfl (hb hby at_5) rfl (by decide) ?_
    show Steps p.tables e below (s₁.setTop (mkF m 6 #[iv p0_0, iv p0_1, iv p0_2, iv p0_3, .unset, .unset, .unset, .unset, .unset, .unset] [(.int ((p0_0 &&& (2147483647 : Int32)) % (3 : Int32)))])) _
    refine XS.istore X0.here hx rfl (hb hby at_6) rfl (l' := #[iv p0_0, iv p0_1, iv p0_2, iv p0_3, iv ((p0_0 &&& (2147483647 : Int32)) % (3 : Int32)), .unset, .unset, .unset, .unset, .unset]) rfl ?_
    rw [← h_ww]
    show Steps p.tables e below (s₁.setTop (mkF m 8 #[iv p0_0, iv p0_1, iv p0_2, iv p0_3, iv ww, .unset, .unset, .unset, .unset, .unset] [])) _
    exact k_
  have hx_2 : ww = (0 : Int32) ∨ ww = (1 : Int32) ∨ ww = (2 : Int32) := by rw [h_ww]; exact own_mod3 _
  rcases hx_2 with rfl | rfl | rfl
  · skip
    obtain ⟨T3, X3, e3, st3⟩ := getS2 X0 hx hZ hown (host := "") (Or.inl wo1) Via.refl e0 (pf_S_com_example_arbiter_arbiter_NodeRule_Propagation_NO_PROP.ext pf_O.2) (g := (mkF m 13 #[iv p0_0, iv p0_1, iv p0_2, iv p0_3, iv (0 : Int32), .unset, .unset, .unset, .unset, .unset] [])) rfl (hb hby at_13)
    have pre5 : ∀ t, Steps p.tables e below (T3.setTop (mkF m 43 #[iv p0_0, iv p0_1, iv p0_2, iv p0_3, iv (0 : Int32), rv s_NO_PROP, .unset, .unset, .unset, .unset] [(.int (p0_1 &&& (1 : Int32)))])) t → Steps p.tables e below (s₁.setTop (entryFrame m #[(.int p0_0), (.int p0_1), (.int p0_2), (.int p0_3)] maxLocals)) t := by
      intro t_ k_
      refine pre1 _ ?_
      show Steps p.tables e below (s₁.setTop (mkF m 8 #[iv p0_0, iv p0_1, iv p0_2, iv p0_3, iv (0 : Int32), .unset, .unset, .unset, .unset, .unset] [])) _
      refine XS.iload X0.here hx rfl (hb hby at_8) rfl ?_
      show Steps p.tables e below (s₁.setTop (mkF m 10 #[iv p0_0, iv p0_1, iv p0_2, iv p0_3, iv (0 : Int32), .unset, .unset, .unset, .unset, .unset] [(.int (0 : Int32))])) _
      refine XS.ifNo X0.here hx rfl (hb hby at_10) rfl ((if0 _ _).trans (teq (by decide : (0 : Int32) = (0 : Int32))).2) ?_
      show Steps p.tables e below (s₁.setTop (mkF m 13 #[iv p0_0, iv p0_1, iv p0_2, iv p0_3, iv (0 : Int32), .unset, .unset, .unset, .unset, .unset] [])) _
      refine st3 _ ?_
      show Steps p.tables e below (T3.setTop (mkF m 16 #[iv p0_0, iv p0_1, iv p0_2, iv p0_3, iv (0 : Int32), .unset, .unset, .unset, .unset, .unset] [(.ref s_NO_PROP)])) _
      refine XS.astore X3.here hx rfl (hb hby at_16) rfl rfl (l' := #[iv p0_0, iv p0_1, iv p0_2, iv p0_3, iv (0 : Int32), rv s_NO_PROP, .unset, .unset, .unset, .unset]) rfl ?_
      show Steps p.tables e below (T3.setTop (mkF m 18 #[iv p0_0, iv p0_1, iv p0_2, iv p0_3, iv (0 : Int32), rv s_NO_PROP, .unset, .unset, .unset, .unset] [])) _
      refine XS.goto X3.here hx rfl (pc0 := 18) (pc' := 40) rfl (hb hby at_18) (by decide) (by decide) ?_
      show Steps p.tables e below (T3.setTop (mkF m 40 #[iv p0_0, iv p0_1, iv p0_2, iv p0_3, iv (0 : Int32), rv s_NO_PROP, .unset, .unset, .unset, .unset] [])) _
      refine XS.iloadN X3.here hx rfl (hb hby at_40) rfl ?_
      show Steps p.tables e below (T3.setTop (mkF m 41 #[iv p0_0, iv p0_1, iv p0_2, iv p0_3, iv (0 : Int32), rv s_NO_PROP, .unset, .unset, .unset, .unset] [(.int p0_1)])) _
      refine XS.iconst X3.here hx rfl (hb hby at_41) ?_
      show Steps p.tables e below (T3.setTop (mkF m 42 #[iv p0_0, iv p0_1, iv p0_2, iv p0_3, iv (0 : Int32), rv s_NO_PROP, .unset, .unset, .unset, .unset] [(.int (1 : Int32)), (.int p0_1)])) _
      refine XS.iand X3.here hx rfl (hb hby at_42) rfl ?_
      exact k_
    by_cases hc43_4 : (p0_1 &&& (1 : Int32)) = (0 : Int32)
    · skip
      obtain ⟨T6, X6, e6, st6⟩ := getS2 X3 hx hZ hown (host := "") (Or.inl wo41) Via.refl e3 (pf_S_com_example_arbiter_arbiter_NodeRule_Sign_DENY.ext pf_O.2) (g := (mkF m 52 #[iv p0_0, iv p0_1, iv p0_2, iv p0_3, iv (0 : Int32), rv s_NO_PROP, .unset, .unset, .unset, .unset] [])) rfl (hb hby at_52)
      have pre8 : ∀ t, Steps p.tables e below (T6.setTop (mkF m 60 #[iv p0_0, iv p0_1, iv p0_2, iv p0_3, iv (0 : Int32), rv s_NO_PROP, rv s_DENY, .unset, .unset, .unset] [(.int (p0_3 &&& (1 : Int32)))])) t → Steps p.tables e below (s₁.setTop (entryFrame m #[(.int p0_0), (.int p0_1), (.int p0_2), (.int p0_3)] maxLocals)) t := by
        intro t_ k_
        refine pre5 _ ?_
        show Steps p.tables e below (T3.setTop (mkF m 43 #[iv p0_0, iv p0_1, iv p0_2, iv p0_3, iv (0 : Int32), rv s_NO_PROP, .unset, .unset, .unset, .unset] [(.int (p0_1 &&& (1 : Int32)))])) _
        refine XS.ifYes X3.here hx rfl (pc0 := 43) (pc' := 52) rfl (hb hby at_43) rfl ((if0 _ _).trans (teq hc43_4).1) (by decide) (by decide) ?_
        show Steps p.tables e below (T3.setTop (mkF m 52 #[iv p0_0, iv p0_1, iv p0_2, iv p0_3, iv (0 : Int32), rv s_NO_PROP, .unset, .unset, .unset, .unset] [])) _
        refine st6 _ ?_
        show Steps p.tables e below (T6.setTop (mkF m 55 #[iv p0_0, iv p0_1, iv p0_2, iv p0_3, iv (0 : Int32), rv s_NO_PROP, .unset, .unset, .unset, .unset] [(.ref s_DENY)])) _
        refine XS.astore X6.here hx rfl (hb hby at_55) rfl rfl (l' := #[iv p0_0, iv p0_1, iv p0_2, iv p0_3, iv (0 : Int32), rv s_NO_PROP, rv s_DENY, .unset, .unset, .unset]) rfl ?_
        show Steps p.tables e below (T6.setTop (mkF m 57 #[iv p0_0, iv p0_1, iv p0_2, iv p0_3, iv (0 : Int32), rv s_NO_PROP, rv s_DENY, .unset, .unset, .unset] [])) _
        refine XS.iloadN X6.here hx rfl (hb hby at_57) rfl ?_
        show Steps p.tables e below (T6.setTop (mkF m 58 #[iv p0_0, iv p0_1, iv p0_2, iv p0_3, iv (0 : Int32), rv s_NO_PROP, rv s_DENY, .unset, .unset, .unset] [(.int p0_3)])) _
        refine XS.iconst X6.here hx rfl (hb hby at_58) ?_
        show Steps p.tables e below (T6.setTop (mkF m 59 #[iv p0_0, iv p0_1, iv p0_2, iv p0_3, iv (0 : Int32), rv s_NO_PROP, rv s_DENY, .unset, .unset, .unset] [(.int (1 : Int32)), (.int p0_3)])) _
        refine XS.iand X6.here hx rfl (hb hby at_59) rfl ?_
        exact k_
      by_cases hc60_7 : (p0_3 &&& (1 : Int32)) = (0 : Int32)
      · skip
        obtain ⟨lv, h_lv⟩ : ∃ z : Int32, z = (p0_2 &&& (2147483647 : Int32)) := ⟨_, rfl⟩
        have hlv : 0 ≤ lv.toInt := by rw [h_lv]; first | exact own_3 _ | exact own_m _
        have pre10 : ∀ t, Steps p.tables e below (T6.setTop (mkF m 82 #[iv p0_0, iv p0_1, iv p0_2, iv p0_3, iv (0 : Int32), rv s_NO_PROP, rv s_DENY, iv lv, .unset, .unset] [(.int lv)])) t → Steps p.tables e below (s₁.setTop (entryFrame m #[(.int p0_0), (.int p0_1), (.int p0_2), (.int p0_3)] maxLocals)) t := by
          intro t_ k_
          refine pre8 _ ?_
          show Steps p.tables e below (T6.setTop (mkF m 60 #[iv p0_0, iv p0_1, iv p0_2, iv p0_3, iv (0 : Int32), rv s_NO_PROP, rv s_DENY, .unset, .unset, .unset] [(.int (p0_3 &&& (1 : Int32)))])) _
          refine XS.ifYes X6.here hx rfl (pc0 := 60) (pc' := 69) rfl (hb hby at_60) rfl ((if0 _ _).trans (teq hc60_7).1) (by decide) (by decide) ?_
          show Steps p.tables e below (T6.setTop (mkF m 69 #[iv p0_0, iv p0_1, iv p0_2, iv p0_3, iv (0 : Int32), rv s_NO_PROP, rv s_DENY, .unset, .unset, .unset] [])) _
          refine XS.iloadN X6.here hx rfl (hb hby at_69) rfl ?_
          show Steps p.tables e below (T6.setTop (mkF m 70 #[iv p0_0, iv p0_1, iv p0_2, iv p0_3, iv (0 : Int32), rv s_NO_PROP, rv s_DENY, .unset, .unset, .unset] [(.int p0_2)])) _
          refine X6.ldcInt hx hown (mvT hZ wo0) (g := (mkF m 70 #[iv p0_0, iv p0_1, iv p0_2, iv p0_3, iv (0 : Int32), rv s_NO_PROP, rv s_DENY, .unset, .unset, .unset] [(.int p0_2)])) rfl (hb hby at_70) _ ?_
          show Steps p.tables e below (T6.setTop (mkF m 72 #[iv p0_0, iv p0_1, iv p0_2, iv p0_3, iv (0 : Int32), rv s_NO_PROP, rv s_DENY, .unset, .unset, .unset] [(.int (2147483647 : Int32)), (.int p0_2)])) _
          refine XS.iand X6.here hx rfl (hb hby at_72) rfl ?_
          show Steps p.tables e below (T6.setTop (mkF m 73 #[iv p0_0, iv p0_1, iv p0_2, iv p0_3, iv (0 : Int32), rv s_NO_PROP, rv s_DENY, .unset, .unset, .unset] [(.int (p0_2 &&& (2147483647 : Int32)))])) _
          refine XS.istore X6.here hx rfl (hb hby at_73) rfl (l' := #[iv p0_0, iv p0_1, iv p0_2, iv p0_3, iv (0 : Int32), rv s_NO_PROP, rv s_DENY, iv (p0_2 &&& (2147483647 : Int32)), .unset, .unset]) rfl ?_
          rw [← h_lv]
          show Steps p.tables e below (T6.setTop (mkF m 75 #[iv p0_0, iv p0_1, iv p0_2, iv p0_3, iv (0 : Int32), rv s_NO_PROP, rv s_DENY, iv lv, .unset, .unset] [])) _
          show Steps p.tables e below (T6.setTop (mkF m 75 #[iv p0_0, iv p0_1, iv p0_2, iv p0_3, iv (0 : Int32), rv s_NO_PROP, rv s_DENY, iv lv, .unset, .unset] [])) _
          refine XS.iload X6.here hx rfl (hb hby at_75) rfl ?_
          show Steps p.tables e below (T6.setTop (mkF m 77 #[iv p0_0, iv p0_1, iv p0_2, iv p0_3, iv (0 : Int32), rv s_NO_PROP, rv s_DENY, iv lv, .unset, .unset] [(.int (0 : Int32))])) _
          refine XS.ifNo X6.here hx rfl (hb hby at_77) rfl ((if0 _ _).trans (teq (by decide : (0 : Int32) = (0 : Int32))).2) ?_
          show Steps p.tables e below (T6.setTop (mkF m 80 #[iv p0_0, iv p0_1, iv p0_2, iv p0_3, iv (0 : Int32), rv s_NO_PROP, rv s_DENY, iv lv, .unset, .unset] [])) _
          refine XS.iload X6.here hx rfl (hb hby at_80) rfl ?_
          exact k_
        by_cases hc82_9 : lv = (0 : Int32)
        · skip
          obtain ⟨T11, h11, X11, e11, E11, A11, D11, -, st11⟩ := newO X6 hx hZ hown wo7 wo8 wo9 e6 (g := (mkF m 120 #[iv p0_0, iv p0_1, iv p0_2, iv p0_3, iv (0 : Int32), rv s_NO_PROP, rv s_DENY, iv lv, iv (1 : Int32), .unset] [])) rfl (hb hby at_120) (by decide) (by decide)
          obtain ⟨b11, gg11⟩ : ∃ z, z = h0.size := ⟨_, rfl⟩
          rw [← gg11] at A11 D11 st11
          have ne12 : s_NO_PROP ≠ b11 := Nat.ne_of_lt (Nat.lt_of_lt_of_le pf_E_s_NO_PROP.lt (Nat.le_of_eq gg11.symm))
          have ne13 : s_GRANT ≠ b11 := Nat.ne_of_lt (Nat.lt_of_lt_of_le pf_E_s_GRANT.lt (Nat.le_of_eq gg11.symm))
          have ne14 : s_FIRST_LEVEL ≠ b11 := Nat.ne_of_lt (Nat.lt_of_lt_of_le pf_E_s_FIRST_LEVEL.lt (Nat.le_of_eq gg11.symm))
          have ne15 : s_DENY ≠ b11 := Nat.ne_of_lt (Nat.lt_of_lt_of_le pf_E_s_DENY.lt (Nat.le_of_eq gg11.symm))
          have ne16 : s_CASCADE ≠ b11 := Nat.ne_of_lt (Nat.lt_of_lt_of_le pf_E_s_CASCADE.lt (Nat.le_of_eq gg11.symm))
          have g17 : n0 ≤ b11 := Nat.le_trans Z0 (Nat.le_of_eq gg11.symm)
          have bz18 : h0.size ≤ b11 := Nat.le_trans (Keep.refl h0 []).1 (Nat.le_of_eq gg11.symm)
          have K19 : Keep h0 h11 [] := (Keep.refl h0 []).ext E11
          have f20 : Fld Z h11 b11 "com/example/arbiter/arbiter/NodeRule" "path" "Ljava/lang/String;" .null := D11 (Or.inr wo25) (ty := (.object "java/lang/String")) (by decide)
          have f21 : Fld Z h11 b11 "com/example/arbiter/arbiter/NodeRule" "operation" "Lcom/example/arbiter/arbiter/DocumentOperation;" .null := D11 (Or.inr wo27) (ty := (.object "com/example/arbiter/arbiter/DocumentOperation")) (by decide)
          have f22 : Fld Z h11 b11 "com/example/arbiter/arbiter/NodeRule" "sign" "Lcom/example/arbiter/arbiter/NodeRule$Sign;" .null := D11 (Or.inr wo29) (ty := (.object "com/example/arbiter/arbiter/NodeRule$Sign")) (by decide)
          have f23 : Fld Z h11 b11 "com/example/arbiter/arbiter/NodeRule" "propagation" "Lcom/example/arbiter/arbiter/NodeRule$Propagation;" .null := D11 (Or.inr wo31) (ty := (.object "com/example/arbiter/arbiter/NodeRule$Propagation")) (by decide)
          have pre24 : ∀ t, Steps p.tables e below (T11.setTop (mkF m 124 #[iv p0_0, iv p0_1, iv p0_2, iv p0_3, iv (0 : Int32), rv s_NO_PROP, rv s_DENY, iv lv, iv (1 : Int32), .unset] [(.ref b11), (.ref b11)])) t → Steps p.tables e below (s₁.setTop (entryFrame m #[(.int p0_0), (.int p0_1), (.int p0_2), (.int p0_3)] maxLocals)) t := by
            intro t_ k_
            refine pre10 _ ?_
            show Steps p.tables e below (T6.setTop (mkF m 82 #[iv p0_0, iv p0_1, iv p0_2, iv p0_3, iv (0 : Int32), rv s_NO_PROP, rv s_DENY, iv lv, .unset, .unset] [(.int lv)])) _
            refine XS.ifNo X6.here hx rfl (hb hby at_82) rfl ((if0 _ _).trans (teq hc82_9).2) ?_
            show Steps p.tables e below (T6.setTop (mkF m 85 #[iv p0_0, iv p0_1, iv p0_2, iv p0_3, iv (0 : Int32), rv s_NO_PROP, rv s_DENY, iv lv, .unset, .unset] [])) _
            refine XS.iconst X6.here hx rfl (hb hby at_85) ?_
            show Steps p.tables e below (T6.setTop (mkF m 86 #[iv p0_0, iv p0_1, iv p0_2, iv p0_3, iv (0 : Int32), rv s_NO_PROP, rv s_DENY, iv lv, .unset, .unset] [(.int (1 : Int32))])) _
            refine XS.goto X6.here hx rfl (pc0 := 86) (pc' := 90) rfl (hb hby at_86) (by decide) (by decide) ?_
            show Steps p.tables e below (T6.setTop (mkF m 90 #[iv p0_0, iv p0_1, iv p0_2, iv p0_3, iv (0 : Int32), rv s_NO_PROP, rv s_DENY, iv lv, .unset, .unset] [(.int (1 : Int32))])) _
            refine XS.istore X6.here hx rfl (hb hby at_90) rfl (l' := #[iv p0_0, iv p0_1, iv p0_2, iv p0_3, iv (0 : Int32), rv s_NO_PROP, rv s_DENY, iv lv, iv (1 : Int32), .unset]) rfl ?_
            show Steps p.tables e below (T6.setTop (mkF m 92 #[iv p0_0, iv p0_1, iv p0_2, iv p0_3, iv (0 : Int32), rv s_NO_PROP, rv s_DENY, iv lv, iv (1 : Int32), .unset] [])) _
            refine XS.goto X6.here hx rfl (pc0 := 92) (pc' := 120) rfl (hb hby at_92) (by decide) (by decide) ?_
            show Steps p.tables e below (T6.setTop (mkF m 120 #[iv p0_0, iv p0_1, iv p0_2, iv p0_3, iv (0 : Int32), rv s_NO_PROP, rv s_DENY, iv lv, iv (1 : Int32), .unset] [])) _
            refine st11 _ ?_
            show Steps p.tables e below (T11.setTop (mkF m 123 #[iv p0_0, iv p0_1, iv p0_2, iv p0_3, iv (0 : Int32), rv s_NO_PROP, rv s_DENY, iv lv, iv (1 : Int32), .unset] [(.ref b11)])) _
            refine XS.dup X11.here hx rfl (hb hby at_123) rfl rfl ?_
            exact k_
          obtain ⟨sa25, T25, h25, k25, X25, e25, E25, S25, K25, hZ, hown, st25⟩ := ldcS (s := s) (vm0 := s.vm) X11 hx hZ hown wo10 (fun d hd => hw d ((by decide +kernel : ∀ d ∈ Bundle.stringAtoms, d ∈ tables_1) d hd)) e11 ((State.WarmedH.refl s).since 0) (Nat.zero_le _) (g := (mkF m 124 #[iv p0_0, iv p0_1, iv p0_2, iv p0_3, iv (0 : Int32), rv s_NO_PROP, rv s_DENY, iv lv, iv (1 : Int32), .unset] [(.ref b11), (.ref b11)])) rfl (hb hby at_124) (n := 4) (by decide) (by decide) (by decide) (by decide)
          have K26 : Keep h0 h25 [] := (K19).ext E25
          have f27 := (A11.ext E25)
          have f28 := (f20.ext E25)
          have f29 := (f21.ext E25)
          have f30 := (f22.ext E25)
          have f31 := (f23.ext E25)
          have f33 := (Nat.le_trans (Nat.le_trans Z0 E11.1) E25.1)
          obtain ⟨_, _, ⟨T32, L32, k32, n32⟩, -, X32, ⟨Lc32, hQ32, l32, y32, z32⟩, st32⟩ := X25.specialBack hx (y := MN1) rfl hown (mvT hZ wo18) (mvT hZ wo19) (mvT hZ wo20) (by decide) (backOf (W := 1) (rm1 l Z a0 hw [] b11 sa25 s_DENY s_NO_PROP h25 n0 f33 f27 g17 f28 f29 f30 f31) hZ wo20 wo9 (by decide) (by decide)) (g := (mkF m 131 #[iv p0_0, iv p0_1, iv p0_2, iv p0_3, iv (0 : Int32), rv s_NO_PROP, rv s_DENY, iv lv, iv (1 : Int32), .unset] [(.ref s_NO_PROP), (.ref s_DENY), .null, (.ref sa25), (.ref b11), (.ref b11)])) rfl (by rw [hml]; rfl) (Steps.refl _) (a := b11) (argsL := [(.ref sa25), .null, (.ref s_DENY), (.ref s_NO_PROP)]) (rest := [(.ref b11)]) (lenOf pd_2 rfl) rfl (by show 2 * 0 + _ ≤ _; exact Nat.le_of_eq rfl) (hb hby at_131) (fun _ _ => ⟨rfl, e25, (by decide : 3 + 0 ≤ _), (by decide : 12 + 0 ≤ _)⟩)
          dsimp only [Pt.U, Pt.locs, Pt.cells, Pt.slots] at X32 l32 y32 z32 st32 hQ32
          rw [l32, y32, z32] at X32
          obtain ⟨rfl, N32q, K32q, hq32_0⟩ := hQ32
          have N34 := Fr.app N0 N32q
          have K35 : Keep h0 T32.heap [] := (K26).trans K32q (allS (P := fun x => x ∈ [] ∨ h0.size ≤ x) (Or.inr bz18) all0)
          have f36 := (((pf_F_s_NO_PROP_levels.ext E11).ext E25).keep K32q (ninS ne12 nin0))
          have f38 := (Nat.le_trans f33 K32q.1)
          have f39 := (f27.keep K32q)
          obtain ⟨cq37, kq37, q37a, q37b, q37c⟩ := isOf hZ rfl f39
          obtain ⟨_, _, ⟨T37, L37, k37, n37⟩, -, X37, ⟨Lc37, hQ37, l37, y37, z37⟩, st37⟩ := X32.virtualBack hx (y := MN3) (z := MN3) hown (mvT hZ wo32) (mvT hZ wo33) (notFace_of_selects (args := #[]) (mvT hZ wo35)) (mvT hZ wo35) (mvT hZ wo34) (by decide) (backOf (W := 0) (rm3 l Z a0 hw [] b11 lv s_NO_PROP (0 : Int32) (T32.heap) n0 f38 hq32_0 f36) hZ wo36 wo9 (by decide) (by decide)) q37a q37c (g := (mkF m 140 #[iv p0_0, iv p0_1, iv p0_2, iv p0_3, iv (0 : Int32), rv s_NO_PROP, rv s_DENY, iv lv, iv (1 : Int32), rv b11] [(.int lv), (.ref b11)])) rfl (by rw [hml]; rfl) (Steps.refl _) (argsL := [(.int lv)]) (rest := []) (lenOf pd_1 rfl) rfl (by show 2 * 0 + _ ≤ _; exact Nat.le_of_eq rfl) (hb hby at_140) (fun _ _ => ⟨rfl, rfl, (by decide : 3 + 0 ≤ _), (by decide : 12 + 0 ≤ _)⟩)
          dsimp only [Pt.U, Pt.locs, Pt.cells, Pt.slots] at X37 l37 y37 z37 st37 hQ37
          rw [l37, y37, z37] at X37
          obtain ⟨rfl, N37q, K37q⟩ := hQ37
          have N40 := Fr.app N34 N37q
          have q41 : (if (0 : Int32) < lv then (0 : Int32) else (1 : Int32)) = (1 : Int32) := if_neg ((own_z lv hlv).mp hc82_9)
          have f42 := (Nat.le_trans K25 K32q.1)
          obtain ⟨fs, hr, hrun, hended, -, hW1, hW2, hW3⟩ := X37.leaveW S25 (by rw [K37q]; exact f42) (v := some (.int (1 : Int32))) (fun h => by rw [Bd.returns] at h; cases h)
          refine ⟨_, _, pre24 _ ?_, hrun, hended, _, _, rfl, ?_, hW1, hW2, hW3.mono (by decide) (by decide)⟩
          · show Steps p.tables e below (T11.setTop (mkF m 124 #[iv p0_0, iv p0_1, iv p0_2, iv p0_3, iv (0 : Int32), rv s_NO_PROP, rv s_DENY, iv lv, iv (1 : Int32), .unset] [(.ref b11), (.ref b11)])) _
            refine st25 _ ?_
            show Steps p.tables e below (T25.setTop (mkF m 126 #[iv p0_0, iv p0_1, iv p0_2, iv p0_3, iv (0 : Int32), rv s_NO_PROP, rv s_DENY, iv lv, iv (1 : Int32), .unset] [(.ref sa25), (.ref b11), (.ref b11)])) _
            refine XS.aconstNull X25.here hx rfl (hb hby at_126) ?_
            show Steps p.tables e below (T25.setTop (mkF m 127 #[iv p0_0, iv p0_1, iv p0_2, iv p0_3, iv (0 : Int32), rv s_NO_PROP, rv s_DENY, iv lv, iv (1 : Int32), .unset] [.null, (.ref sa25), (.ref b11), (.ref b11)])) _
            refine XS.aload X25.here hx rfl (hb hby at_127) rfl rfl ?_
            show Steps p.tables e below (T25.setTop (mkF m 129 #[iv p0_0, iv p0_1, iv p0_2, iv p0_3, iv (0 : Int32), rv s_NO_PROP, rv s_DENY, iv lv, iv (1 : Int32), .unset] [(.ref s_DENY), .null, (.ref sa25), (.ref b11), (.ref b11)])) _
            refine XS.aload X25.here hx rfl (hb hby at_129) rfl rfl ?_
            show Steps p.tables e below (T25.setTop (mkF m 131 #[iv p0_0, iv p0_1, iv p0_2, iv p0_3, iv (0 : Int32), rv s_NO_PROP, rv s_DENY, iv lv, iv (1 : Int32), .unset] [(.ref s_NO_PROP), (.ref s_DENY), .null, (.ref sa25), (.ref b11), (.ref b11)])) _
            refine st32.trans ?_
            show Steps p.tables e below (T32.setTop (mkF m 134 #[iv p0_0, iv p0_1, iv p0_2, iv p0_3, iv (0 : Int32), rv s_NO_PROP, rv s_DENY, iv lv, iv (1 : Int32), .unset] [(.ref b11)])) _
            refine XS.astore X32.here hx rfl (hb hby at_134) rfl rfl (l' := #[iv p0_0, iv p0_1, iv p0_2, iv p0_3, iv (0 : Int32), rv s_NO_PROP, rv s_DENY, iv lv, iv (1 : Int32), rv b11]) rfl ?_
            show Steps p.tables e below (T32.setTop (mkF m 136 #[iv p0_0, iv p0_1, iv p0_2, iv p0_3, iv (0 : Int32), rv s_NO_PROP, rv s_DENY, iv lv, iv (1 : Int32), rv b11] [])) _
            refine XS.aload X32.here hx rfl (hb hby at_136) rfl rfl ?_
            show Steps p.tables e below (T32.setTop (mkF m 138 #[iv p0_0, iv p0_1, iv p0_2, iv p0_3, iv (0 : Int32), rv s_NO_PROP, rv s_DENY, iv lv, iv (1 : Int32), rv b11] [(.ref b11)])) _
            refine XS.iload X32.here hx rfl (hb hby at_138) rfl ?_
            show Steps p.tables e below (T32.setTop (mkF m 140 #[iv p0_0, iv p0_1, iv p0_2, iv p0_3, iv (0 : Int32), rv s_NO_PROP, rv s_DENY, iv lv, iv (1 : Int32), rv b11] [(.int lv), (.ref b11)])) _
            refine st37.trans ?_
            rw [q41]
            show Steps p.tables e below (T37.setTop (mkF m 143 #[iv p0_0, iv p0_1, iv p0_2, iv p0_3, iv (0 : Int32), rv s_NO_PROP, rv s_DENY, iv lv, iv (1 : Int32), rv b11] [(.int (1 : Int32))])) _
            show Steps p.tables e below (T37.setTop (mkF m 143 #[iv p0_0, iv p0_1, iv p0_2, iv p0_3, iv (0 : Int32), rv s_NO_PROP, rv s_DENY, iv lv, iv (1 : Int32), rv b11] [(.int (1 : Int32))])) _
            refine XS.iload X37.here hx rfl (hb hby at_143) rfl ?_
            show Steps p.tables e below (T37.setTop (mkF m 145 #[iv p0_0, iv p0_1, iv p0_2, iv p0_3, iv (0 : Int32), rv s_NO_PROP, rv s_DENY, iv lv, iv (1 : Int32), rv b11] [(.int (1 : Int32)), (.int (1 : Int32))])) _
            refine XS.icmpNo X37.here hx rfl (hb hby at_145) rfl (teq (by decide : (1 : Int32) = (1 : Int32))).2 ?_
            show Steps p.tables e below (T37.setTop (mkF m 148 #[iv p0_0, iv p0_1, iv p0_2, iv p0_3, iv (0 : Int32), rv s_NO_PROP, rv s_DENY, iv lv, iv (1 : Int32), rv b11] [])) _
            refine XS.iconst X37.here hx rfl (hb hby at_148) ?_
            show Steps p.tables e below (T37.setTop (mkF m 149 #[iv p0_0, iv p0_1, iv p0_2, iv p0_3, iv (0 : Int32), rv s_NO_PROP, rv s_DENY, iv lv, iv (1 : Int32), rv b11] [(.int (1 : Int32))])) _
            refine XS.goto X37.here hx rfl (pc0 := 149) (pc' := 153) rfl (hb hby at_149) (by decide) (by decide) ?_
            show Steps p.tables e below (T37.setTop (mkF m 153 #[iv p0_0, iv p0_1, iv p0_2, iv p0_3, iv (0 : Int32), rv s_NO_PROP, rv s_DENY, iv lv, iv (1 : Int32), rv b11] [(.int (1 : Int32))])) _
            exact retN X37 hx (t := .boolean) Bd.returns (by simp) (hb hby at_153) hr
          · show Q_rm0 Z _ _ _ _ _ _ _ _ _ h0 n0 _ T37.heap _
            rw [K37q]
            exact ⟨rfl, N40, (K35)⟩
        · skip
          obtain ⟨T43, h43, X43, e43, E43, A43, D43, -, st43⟩ := newO X6 hx hZ hown wo7 wo8 wo9 e6 (g := (mkF m 120 #[iv p0_0, iv p0_1, iv p0_2, iv p0_3, iv (0 : Int32), rv s_NO_PROP, rv s_DENY, iv lv, iv (0 : Int32), .unset] [])) rfl (hb hby at_120) (by decide) (by decide)
          obtain ⟨b43, gg43⟩ : ∃ z, z = h0.size := ⟨_, rfl⟩
          rw [← gg43] at A43 D43 st43
          have ne44 : s_NO_PROP ≠ b43 := Nat.ne_of_lt (Nat.lt_of_lt_of_le pf_E_s_NO_PROP.lt (Nat.le_of_eq gg43.symm))
          have ne45 : s_GRANT ≠ b43 := Nat.ne_of_lt (Nat.lt_of_lt_of_le pf_E_s_GRANT.lt (Nat.le_of_eq gg43.symm))
          have ne46 : s_FIRST_LEVEL ≠ b43 := Nat.ne_of_lt (Nat.lt_of_lt_of_le pf_E_s_FIRST_LEVEL.lt (Nat.le_of_eq gg43.symm))
          have ne47 : s_DENY ≠ b43 := Nat.ne_of_lt (Nat.lt_of_lt_of_le pf_E_s_DENY.lt (Nat.le_of_eq gg43.symm))
          have ne48 : s_CASCADE ≠ b43 := Nat.ne_of_lt (Nat.lt_of_lt_of_le pf_E_s_CASCADE.lt (Nat.le_of_eq gg43.symm))
          have g49 : n0 ≤ b43 := Nat.le_trans Z0 (Nat.le_of_eq gg43.symm)
          have bz50 : h0.size ≤ b43 := Nat.le_trans (Keep.refl h0 []).1 (Nat.le_of_eq gg43.symm)
          have K51 : Keep h0 h43 [] := (Keep.refl h0 []).ext E43
          have f52 : Fld Z h43 b43 "com/example/arbiter/arbiter/NodeRule" "path" "Ljava/lang/String;" .null := D43 (Or.inr wo25) (ty := (.object "java/lang/String")) (by decide)
          have f53 : Fld Z h43 b43 "com/example/arbiter/arbiter/NodeRule" "operation" "Lcom/example/arbiter/arbiter/DocumentOperation;" .null := D43 (Or.inr wo27) (ty := (.object "com/example/arbiter/arbiter/DocumentOperation")) (by decide)
          have f54 : Fld Z h43 b43 "com/example/arbiter/arbiter/NodeRule" "sign" "Lcom/example/arbiter/arbiter/NodeRule$Sign;" .null := D43 (Or.inr wo29) (ty := (.object "com/example/arbiter/arbiter/NodeRule$Sign")) (by decide)
          have f55 : Fld Z h43 b43 "com/example/arbiter/arbiter/NodeRule" "propagation" "Lcom/example/arbiter/arbiter/NodeRule$Propagation;" .null := D43 (Or.inr wo31) (ty := (.object "com/example/arbiter/arbiter/NodeRule$Propagation")) (by decide)
          have pre56 : ∀ t, Steps p.tables e below (T43.setTop (mkF m 124 #[iv p0_0, iv p0_1, iv p0_2, iv p0_3, iv (0 : Int32), rv s_NO_PROP, rv s_DENY, iv lv, iv (0 : Int32), .unset] [(.ref b43), (.ref b43)])) t → Steps p.tables e below (s₁.setTop (entryFrame m #[(.int p0_0), (.int p0_1), (.int p0_2), (.int p0_3)] maxLocals)) t := by
            intro t_ k_
            refine pre10 _ ?_
            show Steps p.tables e below (T6.setTop (mkF m 82 #[iv p0_0, iv p0_1, iv p0_2, iv p0_3, iv (0 : Int32), rv s_NO_PROP, rv s_DENY, iv lv, .unset, .unset] [(.int lv)])) _
            refine XS.ifYes X6.here hx rfl (pc0 := 82) (pc' := 89) rfl (hb hby at_82) rfl ((if0 _ _).trans (feq hc82_9).2) (by decide) (by decide) ?_
            show Steps p.tables e below (T6.setTop (mkF m 89 #[iv p0_0, iv p0_1, iv p0_2, iv p0_3, iv (0 : Int32), rv s_NO_PROP, rv s_DENY, iv lv, .unset, .unset] [])) _
            refine XS.iconst X6.here hx rfl (hb hby at_89) ?_
            show Steps p.tables e below (T6.setTop (mkF m 90 #[iv p0_0, iv p0_1, iv p0_2, iv p0_3, iv (0 : Int32), rv s_NO_PROP, rv s_DENY, iv lv, .unset, .unset] [(.int (0 : Int32))])) _
            refine XS.istore X6.here hx rfl (hb hby at_90) rfl (l' := #[iv p0_0, iv p0_1, iv p0_2, iv p0_3, iv (0 : Int32), rv s_NO_PROP, rv s_DENY, iv lv, iv (0 : Int32), .unset]) rfl ?_
            show Steps p.tables e below (T6.setTop (mkF m 92 #[iv p0_0, iv p0_1, iv p0_2, iv p0_3, iv (0 : Int32), rv s_NO_PROP, rv s_DENY, iv lv, iv (0 : Int32), .unset] [])) _
            refine XS.goto X6.here hx rfl (pc0 := 92) (pc' := 120) rfl (hb hby at_92) (by decide) (by decide) ?_
            show Steps p.tables e below (T6.setTop (mkF m 120 #[iv p0_0, iv p0_1, iv p0_2, iv p0_3, iv (0 : Int32), rv s_NO_PROP, rv s_DENY, iv lv, iv (0 : Int32), .unset] [])) _
            refine st43 _ ?_
            show Steps p.tables e below (T43.setTop (mkF m 123 #[iv p0_0, iv p0_1, iv p0_2, iv p0_3, iv (0 : Int32), rv s_NO_PROP, rv s_DENY, iv lv, iv (0 : Int32), .unset] [(.ref b43)])) _
            refine XS.dup X43.here hx rfl (hb hby at_123) rfl rfl ?_
            exact k_
          obtain ⟨sa57, T57, h57, k57, X57, e57, E57, S57, K57, hZ, hown, st57⟩ := ldcS (s := s) (vm0 := s.vm) X43 hx hZ hown wo10 (fun d hd => hw d ((by decide +kernel : ∀ d ∈ Bundle.stringAtoms, d ∈ tables_1) d hd)) e43 ((State.WarmedH.refl s).since 0) (Nat.zero_le _) (g := (mkF m 124 #[iv p0_0, iv p0_1, iv p0_2, iv p0_3, iv (0 : Int32), rv s_NO_PROP, rv s_DENY, iv lv, iv (0 : Int32), .unset] [(.ref b43), (.ref b43)])) rfl (hb hby at_124) (n := 4) (by decide) (by decide) (by decide) (by decide)
          have K58 : Keep h0 h57 [] := (K51).ext E57
          have f59 := (A43.ext E57)
          have f60 := (f52.ext E57)
          have f61 := (f53.ext E57)
          have f62 := (f54.ext E57)
          have f63 := (f55.ext E57)
          have f65 := (Nat.le_trans (Nat.le_trans Z0 E43.1) E57.1)
          obtain ⟨_, _, ⟨T64, L64, k64, n64⟩, -, X64, ⟨Lc64, hQ64, l64, y64, z64⟩, st64⟩ := X57.specialBack hx (y := MN1) rfl hown (mvT hZ wo18) (mvT hZ wo19) (mvT hZ wo20) (by decide) (backOf (W := 1) (rm1 l Z a0 hw [] b43 sa57 s_DENY s_NO_PROP h57 n0 f65 f59 g49 f60 f61 f62 f63) hZ wo20 wo9 (by decide) (by decide)) (g := (mkF m 131 #[iv p0_0, iv p0_1, iv p0_2, iv p0_3, iv (0 : Int32), rv s_NO_PROP, rv s_DENY, iv lv, iv (0 : Int32), .unset] [(.ref s_NO_PROP), (.ref s_DENY), .null, (.ref sa57), (.ref b43), (.ref b43)])) rfl (by rw [hml]; rfl) (Steps.refl _) (a := b43) (argsL := [(.ref sa57), .null, (.ref s_DENY), (.ref s_NO_PROP)]) (rest := [(.ref b43)]) (lenOf pd_2 rfl) rfl (by show 2 * 0 + _ ≤ _; exact Nat.le_of_eq rfl) (hb hby at_131) (fun _ _ => ⟨rfl, e57, (by decide : 3 + 0 ≤ _), (by decide : 12 + 0 ≤ _)⟩)
          dsimp only [Pt.U, Pt.locs, Pt.cells, Pt.slots] at X64 l64 y64 z64 st64 hQ64
          rw [l64, y64, z64] at X64
          obtain ⟨rfl, N64q, K64q, hq64_0⟩ := hQ64
          have N66 := Fr.app N0 N64q
          have K67 : Keep h0 T64.heap [] := (K58).trans K64q (allS (P := fun x => x ∈ [] ∨ h0.size ≤ x) (Or.inr bz50) all0)
          have f68 := (((pf_F_s_NO_PROP_levels.ext E43).ext E57).keep K64q (ninS ne44 nin0))
          have f70 := (Nat.le_trans f65 K64q.1)
          have f71 := (f59.keep K64q)
          obtain ⟨cq69, kq69, q69a, q69b, q69c⟩ := isOf hZ rfl f71
          obtain ⟨_, _, ⟨T69, L69, k69, n69⟩, -, X69, ⟨Lc69, hQ69, l69, y69, z69⟩, st69⟩ := X64.virtualBack hx (y := MN3) (z := MN3) hown (mvT hZ wo32) (mvT hZ wo33) (notFace_of_selects (args := #[]) (mvT hZ wo35)) (mvT hZ wo35) (mvT hZ wo34) (by decide) (backOf (W := 0) (rm3 l Z a0 hw [] b43 lv s_NO_PROP (0 : Int32) (T64.heap) n0 f70 hq64_0 f68) hZ wo36 wo9 (by decide) (by decide)) q69a q69c (g := (mkF m 140 #[iv p0_0, iv p0_1, iv p0_2, iv p0_3, iv (0 : Int32), rv s_NO_PROP, rv s_DENY, iv lv, iv (0 : Int32), rv b43] [(.int lv), (.ref b43)])) rfl (by rw [hml]; rfl) (Steps.refl _) (argsL := [(.int lv)]) (rest := []) (lenOf pd_1 rfl) rfl (by show 2 * 0 + _ ≤ _; exact Nat.le_of_eq rfl) (hb hby at_140) (fun _ _ => ⟨rfl, rfl, (by decide : 3 + 0 ≤ _), (by decide : 12 + 0 ≤ _)⟩)
          dsimp only [Pt.U, Pt.locs, Pt.cells, Pt.slots] at X69 l69 y69 z69 st69 hQ69
          rw [l69, y69, z69] at X69
          obtain ⟨rfl, N69q, K69q⟩ := hQ69
          have N72 := Fr.app N66 N69q
          have q73 : (if (0 : Int32) < lv then (0 : Int32) else (1 : Int32)) = (0 : Int32) := if_pos (Classical.not_not.mp (fun q => hc82_9 ((own_z lv hlv).mpr q)))
          have f74 := (Nat.le_trans K57 K64q.1)
          obtain ⟨fs, hr, hrun, hended, -, hW1, hW2, hW3⟩ := X69.leaveW S57 (by rw [K69q]; exact f74) (v := some (.int (1 : Int32))) (fun h => by rw [Bd.returns] at h; cases h)
          refine ⟨_, _, pre56 _ ?_, hrun, hended, _, _, rfl, ?_, hW1, hW2, hW3.mono (by decide) (by decide)⟩
          · show Steps p.tables e below (T43.setTop (mkF m 124 #[iv p0_0, iv p0_1, iv p0_2, iv p0_3, iv (0 : Int32), rv s_NO_PROP, rv s_DENY, iv lv, iv (0 : Int32), .unset] [(.ref b43), (.ref b43)])) _
            refine st57 _ ?_
            show Steps p.tables e below (T57.setTop (mkF m 126 #[iv p0_0, iv p0_1, iv p0_2, iv p0_3, iv (0 : Int32), rv s_NO_PROP, rv s_DENY, iv lv, iv (0 : Int32), .unset] [(.ref sa57), (.ref b43), (.ref b43)])) _
            refine XS.aconstNull X57.here hx rfl (hb hby at_126) ?_
            show Steps p.tables e below (T57.setTop (mkF m 127 #[iv p0_0, iv p0_1, iv p0_2, iv p0_3, iv (0 : Int32), rv s_NO_PROP, rv s_DENY, iv lv, iv (0 : Int32), .unset] [.null, (.ref sa57), (.ref b43), (.ref b43)])) _
            refine XS.aload X57.here hx rfl (hb hby at_127) rfl rfl ?_
            show Steps p.tables e below (T57.setTop (mkF m 129 #[iv p0_0, iv p0_1, iv p0_2, iv p0_3, iv (0 : Int32), rv s_NO_PROP, rv s_DENY, iv lv, iv (0 : Int32), .unset] [(.ref s_DENY), .null, (.ref sa57), (.ref b43), (.ref b43)])) _
            refine XS.aload X57.here hx rfl (hb hby at_129) rfl rfl ?_
            show Steps p.tables e below (T57.setTop (mkF m 131 #[iv p0_0, iv p0_1, iv p0_2, iv p0_3, iv (0 : Int32), rv s_NO_PROP, rv s_DENY, iv lv, iv (0 : Int32), .unset] [(.ref s_NO_PROP), (.ref s_DENY), .null, (.ref sa57), (.ref b43), (.ref b43)])) _
            refine st64.trans ?_
            show Steps p.tables e below (T64.setTop (mkF m 134 #[iv p0_0, iv p0_1, iv p0_2, iv p0_3, iv (0 : Int32), rv s_NO_PROP, rv s_DENY, iv lv, iv (0 : Int32), .unset] [(.ref b43)])) _
            refine XS.astore X64.here hx rfl (hb hby at_134) rfl rfl (l' := #[iv p0_0, iv p0_1, iv p0_2, iv p0_3, iv (0 : Int32), rv s_NO_PROP, rv s_DENY, iv lv, iv (0 : Int32), rv b43]) rfl ?_
            show Steps p.tables e below (T64.setTop (mkF m 136 #[iv p0_0, iv p0_1, iv p0_2, iv p0_3, iv (0 : Int32), rv s_NO_PROP, rv s_DENY, iv lv, iv (0 : Int32), rv b43] [])) _
            refine XS.aload X64.here hx rfl (hb hby at_136) rfl rfl ?_
            show Steps p.tables e below (T64.setTop (mkF m 138 #[iv p0_0, iv p0_1, iv p0_2, iv p0_3, iv (0 : Int32), rv s_NO_PROP, rv s_DENY, iv lv, iv (0 : Int32), rv b43] [(.ref b43)])) _
            refine XS.iload X64.here hx rfl (hb hby at_138) rfl ?_
            show Steps p.tables e below (T64.setTop (mkF m 140 #[iv p0_0, iv p0_1, iv p0_2, iv p0_3, iv (0 : Int32), rv s_NO_PROP, rv s_DENY, iv lv, iv (0 : Int32), rv b43] [(.int lv), (.ref b43)])) _
            refine st69.trans ?_
            rw [q73]
            show Steps p.tables e below (T69.setTop (mkF m 143 #[iv p0_0, iv p0_1, iv p0_2, iv p0_3, iv (0 : Int32), rv s_NO_PROP, rv s_DENY, iv lv, iv (0 : Int32), rv b43] [(.int (0 : Int32))])) _
            show Steps p.tables e below (T69.setTop (mkF m 143 #[iv p0_0, iv p0_1, iv p0_2, iv p0_3, iv (0 : Int32), rv s_NO_PROP, rv s_DENY, iv lv, iv (0 : Int32), rv b43] [(.int (0 : Int32))])) _
            refine XS.iload X69.here hx rfl (hb hby at_143) rfl ?_
            show Steps p.tables e below (T69.setTop (mkF m 145 #[iv p0_0, iv p0_1, iv p0_2, iv p0_3, iv (0 : Int32), rv s_NO_PROP, rv s_DENY, iv lv, iv (0 : Int32), rv b43] [(.int (0 : Int32)), (.int (0 : Int32))])) _
            refine XS.icmpNo X69.here hx rfl (hb hby at_145) rfl (teq (by decide : (0 : Int32) = (0 : Int32))).2 ?_
            show Steps p.tables e below (T69.setTop (mkF m 148 #[iv p0_0, iv p0_1, iv p0_2, iv p0_3, iv (0 : Int32), rv s_NO_PROP, rv s_DENY, iv lv, iv (0 : Int32), rv b43] [])) _
            refine XS.iconst X69.here hx rfl (hb hby at_148) ?_
            show Steps p.tables e below (T69.setTop (mkF m 149 #[iv p0_0, iv p0_1, iv p0_2, iv p0_3, iv (0 : Int32), rv s_NO_PROP, rv s_DENY, iv lv, iv (0 : Int32), rv b43] [(.int (1 : Int32))])) _
            refine XS.goto X69.here hx rfl (pc0 := 149) (pc' := 153) rfl (hb hby at_149) (by decide) (by decide) ?_
            show Steps p.tables e below (T69.setTop (mkF m 153 #[iv p0_0, iv p0_1, iv p0_2, iv p0_3, iv (0 : Int32), rv s_NO_PROP, rv s_DENY, iv lv, iv (0 : Int32), rv b43] [(.int (1 : Int32))])) _
            exact retN X69 hx (t := .boolean) Bd.returns (by simp) (hb hby at_153) hr
          · show Q_rm0 Z _ _ _ _ _ _ _ _ _ h0 n0 _ T69.heap _
            rw [K69q]
            exact ⟨rfl, N72, (K67)⟩
      · skip
        obtain ⟨lv, h_lv⟩ : ∃ z : Int32, z = (p0_2 &&& (3 : Int32)) := ⟨_, rfl⟩
        have hlv : 0 ≤ lv.toInt := by rw [h_lv]; first | exact own_3 _ | exact own_m _
        have pre76 : ∀ t, Steps p.tables e below (T6.setTop (mkF m 82 #[iv p0_0, iv p0_1, iv p0_2, iv p0_3, iv (0 : Int32), rv s_NO_PROP, rv s_DENY, iv lv, .unset, .unset] [(.int lv)])) t → Steps p.tables e below (s₁.setTop (entryFrame m #[(.int p0_0), (.int p0_1), (.int p0_2), (.int p0_3)] maxLocals)) t := by
          intro t_ k_
          refine pre8 _ ?_
          show Steps p.tables e below (T6.setTop (mkF m 60 #[iv p0_0, iv p0_1, iv p0_2, iv p0_3, iv (0 : Int32), rv s_NO_PROP, rv s_DENY, .unset, .unset, .unset] [(.int (p0_3 &&& (1 : Int32)))])) _
          refine XS.ifNo X6.here hx rfl (hb hby at_60) rfl ((if0 _ _).trans (feq hc60_7).1) ?_
          show Steps p.tables e below (T6.setTop (mkF m 63 #[iv p0_0, iv p0_1, iv p0_2, iv p0_3, iv (0 : Int32), rv s_NO_PROP, rv s_DENY, .unset, .unset, .unset] [])) _
          refine XS.iloadN X6.here hx rfl (hb hby at_63) rfl ?_
          show Steps p.tables e below (T6.setTop (mkF m 64 #[iv p0_0, iv p0_1, iv p0_2, iv p0_3, iv (0 : Int32), rv s_NO_PROP, rv s_DENY, .unset, .unset, .unset] [(.int p0_2)])) _
          refine XS.iconst X6.here hx rfl (hb hby at_64) ?_
          show Steps p.tables e below (T6.setTop (mkF m 65 #[iv p0_0, iv p0_1, iv p0_2, iv p0_3, iv (0 : Int32), rv s_NO_PROP, rv s_DENY, .unset, .unset, .unset] [(.int (3 : Int32)), (.int p0_2)])) _
          refine XS.iand X6.here hx rfl (hb hby at_65) rfl ?_
          show Steps p.tables e below (T6.setTop (mkF m 66 #[iv p0_0, iv p0_1, iv p0_2, iv p0_3, iv (0 : Int32), rv s_NO_PROP, rv s_DENY, .unset, .unset, .unset] [(.int (p0_2 &&& (3 : Int32)))])) _
          refine XS.goto X6.here hx rfl (pc0 := 66) (pc' := 73) rfl (hb hby at_66) (by decide) (by decide) ?_
          show Steps p.tables e below (T6.setTop (mkF m 73 #[iv p0_0, iv p0_1, iv p0_2, iv p0_3, iv (0 : Int32), rv s_NO_PROP, rv s_DENY, .unset, .unset, .unset] [(.int (p0_2 &&& (3 : Int32)))])) _
          refine XS.istore X6.here hx rfl (hb hby at_73) rfl (l' := #[iv p0_0, iv p0_1, iv p0_2, iv p0_3, iv (0 : Int32), rv s_NO_PROP, rv s_DENY, iv (p0_2 &&& (3 : Int32)), .unset, .unset]) rfl ?_
          rw [← h_lv]
          show Steps p.tables e below (T6.setTop (mkF m 75 #[iv p0_0, iv p0_1, iv p0_2, iv p0_3, iv (0 : Int32), rv s_NO_PROP, rv s_DENY, iv lv, .unset, .unset] [])) _
          show Steps p.tables e below (T6.setTop (mkF m 75 #[iv p0_0, iv p0_1, iv p0_2, iv p0_3, iv (0 : Int32), rv s_NO_PROP, rv s_DENY, iv lv, .unset, .unset] [])) _
          refine XS.iload X6.here hx rfl (hb hby at_75) rfl ?_
          show Steps p.tables e below (T6.setTop (mkF m 77 #[iv p0_0, iv p0_1, iv p0_2, iv p0_3, iv (0 : Int32), rv s_NO_PROP, rv s_DENY, iv lv, .unset, .unset] [(.int (0 : Int32))])) _
          refine XS.ifNo X6.here hx rfl (hb hby at_77) rfl ((if0 _ _).trans (teq (by decide : (0 : Int32) = (0 : Int32))).2) ?_
          show Steps p.tables e below (T6.setTop (mkF m 80 #[iv p0_0, iv p0_1, iv p0_2, iv p0_3, iv (0 : Int32), rv s_NO_PROP, rv s_DENY, iv lv, .unset, .unset] [])) _
          refine XS.iload X6.here hx rfl (hb hby at_80) rfl ?_
          exact k_
        by_cases hc82_75 : lv = (0 : Int32)
        · skip
          obtain ⟨T77, h77, X77, e77, E77, A77, D77, -, st77⟩ := newO X6 hx hZ hown wo7 wo8 wo9 e6 (g := (mkF m 120 #[iv p0_0, iv p0_1, iv p0_2, iv p0_3, iv (0 : Int32), rv s_NO_PROP, rv s_DENY, iv lv, iv (1 : Int32), .unset] [])) rfl (hb hby at_120) (by decide) (by decide)
          obtain ⟨b77, gg77⟩ : ∃ z, z = h0.size := ⟨_, rfl⟩
          rw [← gg77] at A77 D77 st77
          have ne78 : s_NO_PROP ≠ b77 := Nat.ne_of_lt (Nat.lt_of_lt_of_le pf_E_s_NO_PROP.lt (Nat.le_of_eq gg77.symm))
          have ne79 : s_GRANT ≠ b77 := Nat.ne_of_lt (Nat.lt_of_lt_of_le pf_E_s_GRANT.lt (Nat.le_of_eq gg77.symm))
          have ne80 : s_FIRST_LEVEL ≠ b77 := Nat.ne_of_lt (Nat.lt_of_lt_of_le pf_E_s_FIRST_LEVEL.lt (Nat.le_of_eq gg77.symm))
          have ne81 : s_DENY ≠ b77 := Nat.ne_of_lt (Nat.lt_of_lt_of_le pf_E_s_DENY.lt (Nat.le_of_eq gg77.symm))
          have ne82 : s_CASCADE ≠ b77 := Nat.ne_of_lt (Nat.lt_of_lt_of_le pf_E_s_CASCADE.lt (Nat.le_of_eq gg77.symm))
          have g83 : n0 ≤ b77 := Nat.le_trans Z0 (Nat.le_of_eq gg77.symm)
          have bz84 : h0.size ≤ b77 := Nat.le_trans (Keep.refl h0 []).1 (Nat.le_of_eq gg77.symm)
          have K85 : Keep h0 h77 [] := (Keep.refl h0 []).ext E77
          have f86 : Fld Z h77 b77 "com/example/arbiter/arbiter/NodeRule" "path" "Ljava/lang/String;" .null := D77 (Or.inr wo25) (ty := (.object "java/lang/String")) (by decide)
          have f87 : Fld Z h77 b77 "com/example/arbiter/arbiter/NodeRule" "operation" "Lcom/example/arbiter/arbiter/DocumentOperation;" .null := D77 (Or.inr wo27) (ty := (.object "com/example/arbiter/arbiter/DocumentOperation")) (by decide)
          have f88 : Fld Z h77 b77 "com/example/arbiter/arbiter/NodeRule" "sign" "Lcom/example/arbiter/arbiter/NodeRule$Sign;" .null := D77 (Or.inr wo29) (ty := (.object "com/example/arbiter/arbiter/NodeRule$Sign")) (by decide)
          have f89 : Fld Z h77 b77 "com/example/arbiter/arbiter/NodeRule" "propagation" "Lcom/example/arbiter/arbiter/NodeRule$Propagation;" .null := D77 (Or.inr wo31) (ty := (.object "com/example/arbiter/arbiter/NodeRule$Propagation")) (by decide)
          have pre90 : ∀ t, Steps p.tables e below (T77.setTop (mkF m 124 #[iv p0_0, iv p0_1, iv p0_2, iv p0_3, iv (0 : Int32), rv s_NO_PROP, rv s_DENY, iv lv, iv (1 : Int32), .unset] [(.ref b77), (.ref b77)])) t → Steps p.tables e below (s₁.setTop (entryFrame m #[(.int p0_0), (.int p0_1), (.int p0_2), (.int p0_3)] maxLocals)) t := by
            intro t_ k_
            refine pre76 _ ?_
            show Steps p.tables e below (T6.setTop (mkF m 82 #[iv p0_0, iv p0_1, iv p0_2, iv p0_3, iv (0 : Int32), rv s_NO_PROP, rv s_DENY, iv lv, .unset, .unset] [(.int lv)])) _
            refine XS.ifNo X6.here hx rfl (hb hby at_82) rfl ((if0 _ _).trans (teq hc82_75).2) ?_
            show Steps p.tables e below (T6.setTop (mkF m 85 #[iv p0_0, iv p0_1, iv p0_2, iv p0_3, iv (0 : Int32), rv s_NO_PROP, rv s_DENY, iv lv, .unset, .unset] [])) _
            refine XS.iconst X6.here hx rfl (hb hby at_85) ?_
            show Steps p.tables e below (T6.setTop (mkF m 86 #[iv p0_0, iv p0_1, iv p0_2, iv p0_3, iv (0 : Int32), rv s_NO_PROP, rv s_DENY, iv lv, .unset, .unset] [(.int (1 : Int32))])) _
            refine XS.goto X6.here hx rfl (pc0 := 86) (pc' := 90) rfl (hb hby at_86) (by decide) (by decide) ?_
            show Steps p.tables e below (T6.setTop (mkF m 90 #[iv p0_0, iv p0_1, iv p0_2, iv p0_3, iv (0 : Int32), rv s_NO_PROP, rv s_DENY, iv lv, .unset, .unset] [(.int (1 : Int32))])) _
            refine XS.istore X6.here hx rfl (hb hby at_90) rfl (l' := #[iv p0_0, iv p0_1, iv p0_2, iv p0_3, iv (0 : Int32), rv s_NO_PROP, rv s_DENY, iv lv, iv (1 : Int32), .unset]) rfl ?_
            show Steps p.tables e below (T6.setTop (mkF m 92 #[iv p0_0, iv p0_1, iv p0_2, iv p0_3, iv (0 : Int32), rv s_NO_PROP, rv s_DENY, iv lv, iv (1 : Int32), .unset] [])) _
            refine XS.goto X6.here hx rfl (pc0 := 92) (pc' := 120) rfl (hb hby at_92) (by decide) (by decide) ?_
            show Steps p.tables e below (T6.setTop (mkF m 120 #[iv p0_0, iv p0_1, iv p0_2, iv p0_3, iv (0 : Int32), rv s_NO_PROP, rv s_DENY, iv lv, iv (1 : Int32), .unset] [])) _
            refine st77 _ ?_
            show Steps p.tables e below (T77.setTop (mkF m 123 #[iv p0_0, iv p0_1, iv p0_2, iv p0_3, iv (0 : Int32), rv s_NO_PROP, rv s_DENY, iv lv, iv (1 : Int32), .unset] [(.ref b77)])) _
            refine XS.dup X77.here hx rfl (hb hby at_123) rfl rfl ?_
            exact k_
          obtain ⟨sa91, T91, h91, k91, X91, e91, E91, S91, K91, hZ, hown, st91⟩ := ldcS (s := s) (vm0 := s.vm) X77 hx hZ hown wo10 (fun d hd => hw d ((by decide +kernel : ∀ d ∈ Bundle.stringAtoms, d ∈ tables_1) d hd)) e77 ((State.WarmedH.refl s).since 0) (Nat.zero_le _) (g := (mkF m 124 #[iv p0_0, iv p0_1, iv p0_2, iv p0_3, iv (0 : Int32), rv s_NO_PROP, rv s_DENY, iv lv, iv (1 : Int32), .unset] [(.ref b77), (.ref b77)])) rfl (hb hby at_124) (n := 4) (by decide) (by decide) (by decide) (by decide)
          have K92 : Keep h0 h91 [] := (K85).ext E91
          have f93 := (A77.ext E91)
          have f94 := (f86.ext E91)
          have f95 := (f87.ext E91)
          have f96 := (f88.ext E91)
          have f97 := (f89.ext E91)
          have f99 := (Nat.le_trans (Nat.le_trans Z0 E77.1) E91.1)
          obtain ⟨_, _, ⟨T98, L98, k98, n98⟩, -, X98, ⟨Lc98, hQ98, l98, y98, z98⟩, st98⟩ := X91.specialBack hx (y := MN1) rfl hown (mvT hZ wo18) (mvT hZ wo19) (mvT hZ wo20) (by decide) (backOf (W := 1) (rm1 l Z a0 hw [] b77 sa91 s_DENY s_NO_PROP h91 n0 f99 f93 g83 f94 f95 f96 f97) hZ wo20 wo9 (by decide) (by decide)) (g := (mkF m 131 #[iv p0_0, iv p0_1, iv p0_2, iv p0_3, iv (0 : Int32), rv s_NO_PROP, rv s_DENY, iv lv, iv (1 : Int32), .unset] [(.ref s_NO_PROP), (.ref s_DENY), .null, (.ref sa91), (.ref b77), (.ref b77)])) rfl (by rw [hml]; rfl) (Steps.refl _) (a := b77) (argsL := [(.ref sa91), .null, (.ref s_DENY), (.ref s_NO_PROP)]) (rest := [(.ref b77)]) (lenOf pd_2 rfl) rfl (by show 2 * 0 + _ ≤ _; exact Nat.le_of_eq rfl) (hb hby at_131) (fun _ _ => ⟨rfl, e91, (by decide : 3 + 0 ≤ _), (by decide : 12 + 0 ≤ _)⟩)
          dsimp only [Pt.U, Pt.locs, Pt.cells, Pt.slots] at X98 l98 y98 z98 st98 hQ98
          rw [l98, y98, z98] at X98
          obtain ⟨rfl, N98q, K98q, hq98_0⟩ := hQ98
          have N100 := Fr.app N0 N98q
          have K101 : Keep h0 T98.heap [] := (K92).trans K98q (allS (P := fun x => x ∈ [] ∨ h0.size ≤ x) (Or.inr bz84) all0)
          have f102 := (((pf_F_s_NO_PROP_levels.ext E77).ext E91).keep K98q (ninS ne78 nin0))
          have f104 := (Nat.le_trans f99 K98q.1)
          have f105 := (f93.keep K98q)
          obtain ⟨cq103, kq103, q103a, q103b, q103c⟩ := isOf hZ rfl f105
          obtain ⟨_, _, ⟨T103, L103, k103, n103⟩, -, X103, ⟨Lc103, hQ103, l103, y103, z103⟩, st103⟩ := X98.virtualBack hx (y := MN3) (z := MN3) hown (mvT hZ wo32) (mvT hZ wo33) (notFace_of_selects (args := #[]) (mvT hZ wo35)) (mvT hZ wo35) (mvT hZ wo34) (by decide) (backOf (W := 0) (rm3 l Z a0 hw [] b77 lv s_NO_PROP (0 : Int32) (T98.heap) n0 f104 hq98_0 f102) hZ wo36 wo9 (by decide) (by decide)) q103a q103c (g := (mkF m 140 #[iv p0_0, iv p0_1, iv p0_2, iv p0_3, iv (0 : Int32), rv s_NO_PROP, rv s_DENY, iv lv, iv (1 : Int32), rv b77] [(.int lv), (.ref b77)])) rfl (by rw [hml]; rfl) (Steps.refl _) (argsL := [(.int lv)]) (rest := []) (lenOf pd_1 rfl) rfl (by show 2 * 0 + _ ≤ _; exact Nat.le_of_eq rfl) (hb hby at_140) (fun _ _ => ⟨rfl, rfl, (by decide : 3 + 0 ≤ _), (by decide : 12 + 0 ≤ _)⟩)
          dsimp only [Pt.U, Pt.locs, Pt.cells, Pt.slots] at X103 l103 y103 z103 st103 hQ103
          rw [l103, y103, z103] at X103
          obtain ⟨rfl, N103q, K103q⟩ := hQ103
          have N106 := Fr.app N100 N103q
          have q107 : (if (0 : Int32) < lv then (0 : Int32) else (1 : Int32)) = (1 : Int32) := if_neg ((own_z lv hlv).mp hc82_75)
          have f108 := (Nat.le_trans K91 K98q.1)
          obtain ⟨fs, hr, hrun, hended, -, hW1, hW2, hW3⟩ := X103.leaveW S91 (by rw [K103q]; exact f108) (v := some (.int (1 : Int32))) (fun h => by rw [Bd.returns] at h; cases h)
          refine ⟨_, _, pre90 _ ?_, hrun, hended, _, _, rfl, ?_, hW1, hW2, hW3.mono (by decide) (by decide)⟩
          · show Steps p.tables e below (T77.setTop (mkF m 124 #[iv p0_0, iv p0_1, iv p0_2, iv p0_3, iv (0 : Int32), rv s_NO_PROP, rv s_DENY, iv lv, iv (1 : Int32), .unset] [(.ref b77), (.ref b77)])) _
            refine st91 _ ?_
            show Steps p.tables e below (T91.setTop (mkF m 126 #[iv p0_0, iv p0_1, iv p0_2, iv p0_3, iv (0 : Int32), rv s_NO_PROP, rv s_DENY, iv lv, iv (1 : Int32), .unset] [(.ref sa91), (.ref b77), (.ref b77)])) _
            refine XS.aconstNull X91.here hx rfl (hb hby at_126) ?_
            show Steps p.tables e below (T91.setTop (mkF m 127 #[iv p0_0, iv p0_1, iv p0_2, iv p0_3, iv (0 : Int32), rv s_NO_PROP, rv s_DENY, iv lv, iv (1 : Int32), .unset] [.null, (.ref sa91), (.ref b77), (.ref b77)])) _
            refine XS.aload X91.here hx rfl (hb hby at_127) rfl rfl ?_
            show Steps p.tables e below (T91.setTop (mkF m 129 #[iv p0_0, iv p0_1, iv p0_2, iv p0_3, iv (0 : Int32), rv s_NO_PROP, rv s_DENY, iv lv, iv (1 : Int32), .unset] [(.ref s_DENY), .null, (.ref sa91), (.ref b77), (.ref b77)])) _
            refine XS.aload X91.here hx rfl (hb hby at_129) rfl rfl ?_
            show Steps p.tables e below (T91.setTop (mkF m 131 #[iv p0_0, iv p0_1, iv p0_2, iv p0_3, iv (0 : Int32), rv s_NO_PROP, rv s_DENY, iv lv, iv (1 : Int32), .unset] [(.ref s_NO_PROP), (.ref s_DENY), .null, (.ref sa91), (.ref b77), (.ref b77)])) _
            refine st98.trans ?_
            show Steps p.tables e below (T98.setTop (mkF m 134 #[iv p0_0, iv p0_1, iv p0_2, iv p0_3, iv (0 : Int32), rv s_NO_PROP, rv s_DENY, iv lv, iv (1 : Int32), .unset] [(.ref b77)])) _
            refine XS.astore X98.here hx rfl (hb hby at_134) rfl rfl (l' := #[iv p0_0, iv p0_1, iv p0_2, iv p0_3, iv (0 : Int32), rv s_NO_PROP, rv s_DENY, iv lv, iv (1 : Int32), rv b77]) rfl ?_
            show Steps p.tables e below (T98.setTop (mkF m 136 #[iv p0_0, iv p0_1, iv p0_2, iv p0_3, iv (0 : Int32), rv s_NO_PROP, rv s_DENY, iv lv, iv (1 : Int32), rv b77] [])) _
            refine XS.aload X98.here hx rfl (hb hby at_136) rfl rfl ?_
            show Steps p.tables e below (T98.setTop (mkF m 138 #[iv p0_0, iv p0_1, iv p0_2, iv p0_3, iv (0 : Int32), rv s_NO_PROP, rv s_DENY, iv lv, iv (1 : Int32), rv b77] [(.ref b77)])) _
            refine XS.iload X98.here hx rfl (hb hby at_138) rfl ?_
            show Steps p.tables e below (T98.setTop (mkF m 140 #[iv p0_0, iv p0_1, iv p0_2, iv p0_3, iv (0 : Int32), rv s_NO_PROP, rv s_DENY, iv lv, iv (1 : Int32), rv b77] [(.int lv), (.ref b77)])) _
            refine st103.trans ?_
            rw [q107]
            show Steps p.tables e below (T103.setTop (mkF m 143 #[iv p0_0, iv p0_1, iv p0_2, iv p0_3, iv (0 : Int32), rv s_NO_PROP, rv s_DENY, iv lv, iv (1 : Int32), rv b77] [(.int (1 : Int32))])) _
            show Steps p.tables e below (T103.setTop (mkF m 143 #[iv p0_0, iv p0_1, iv p0_2, iv p0_3, iv (0 : Int32), rv s_NO_PROP, rv s_DENY, iv lv, iv (1 : Int32), rv b77] [(.int (1 : Int32))])) _
            refine XS.iload X103.here hx rfl (hb hby at_143) rfl ?_
            show Steps p.tables e below (T103.setTop (mkF m 145 #[iv p0_0, iv p0_1, iv p0_2, iv p0_3, iv (0 : Int32), rv s_NO_PROP, rv s_DENY, iv lv, iv (1 : Int32), rv b77] [(.int (1 : Int32)), (.int (1 : Int32))])) _
            refine XS.icmpNo X103.here hx rfl (hb hby at_145) rfl (teq (by decide : (1 : Int32) = (1 : Int32))).2 ?_
            show Steps p.tables e below (T103.setTop (mkF m 148 #[iv p0_0, iv p0_1, iv p0_2, iv p0_3, iv (0 : Int32), rv s_NO_PROP, rv s_DENY, iv lv, iv (1 : Int32), rv b77] [])) _
            refine XS.iconst X103.here hx rfl (hb hby at_148) ?_
            show Steps p.tables e below (T103.setTop (mkF m 149 #[iv p0_0, iv p0_1, iv p0_2, iv p0_3, iv (0 : Int32), rv s_NO_PROP, rv s_DENY, iv lv, iv (1 : Int32), rv b77] [(.int (1 : Int32))])) _
            refine XS.goto X103.here hx rfl (pc0 := 149) (pc' := 153) rfl (hb hby at_149) (by decide) (by decide) ?_
            show Steps p.tables e below (T103.setTop (mkF m 153 #[iv p0_0, iv p0_1, iv p0_2, iv p0_3, iv (0 : Int32), rv s_NO_PROP, rv s_DENY, iv lv, iv (1 : Int32), rv b77] [(.int (1 : Int32))])) _
            exact retN X103 hx (t := .boolean) Bd.returns (by simp) (hb hby at_153) hr
          · show Q_rm0 Z _ _ _ _ _ _ _ _ _ h0 n0 _ T103.heap _
            rw [K103q]
            exact ⟨rfl, N106, (K101)⟩
        · skip
          obtain ⟨T109, h109, X109, e109, E109, A109, D109, -, st109⟩ := newO X6 hx hZ hown wo7 wo8 wo9 e6 (g := (mkF m 120 #[iv p0_0, iv p0_1, iv p0_2, iv p0_3, iv (0 : Int32), rv s_NO_PROP, rv s_DENY, iv lv, iv (0 : Int32), .unset] [])) rfl (hb hby at_120) (by decide) (by decide)
          obtain ⟨b109, gg109⟩ : ∃ z, z = h0.size := ⟨_, rfl⟩
          rw [← gg109] at A109 D109 st109
          have ne110 : s_NO_PROP ≠ b109 := Nat.ne_of_lt (Nat.lt_of_lt_of_le pf_E_s_NO_PROP.lt (Nat.le_of_eq gg109.symm))
          have ne111 : s_GRANT ≠ b109 := Nat.ne_of_lt (Nat.lt_of_lt_of_le pf_E_s_GRANT.lt (Nat.le_of_eq gg109.symm))
          have ne112 : s_FIRST_LEVEL ≠ b109 := Nat.ne_of_lt (Nat.lt_of_lt_of_le pf_E_s_FIRST_LEVEL.lt (Nat.le_of_eq gg109.symm))
          have ne113 : s_DENY ≠ b109 := Nat.ne_of_lt (Nat.lt_of_lt_of_le pf_E_s_DENY.lt (Nat.le_of_eq gg109.symm))
          have ne114 : s_CASCADE ≠ b109 := Nat.ne_of_lt (Nat.lt_of_lt_of_le pf_E_s_CASCADE.lt (Nat.le_of_eq gg109.symm))
          have g115 : n0 ≤ b109 := Nat.le_trans Z0 (Nat.le_of_eq gg109.symm)
          have bz116 : h0.size ≤ b109 := Nat.le_trans (Keep.refl h0 []).1 (Nat.le_of_eq gg109.symm)
          have K117 : Keep h0 h109 [] := (Keep.refl h0 []).ext E109
          have f118 : Fld Z h109 b109 "com/example/arbiter/arbiter/NodeRule" "path" "Ljava/lang/String;" .null := D109 (Or.inr wo25) (ty := (.object "java/lang/String")) (by decide)
          have f119 : Fld Z h109 b109 "com/example/arbiter/arbiter/NodeRule" "operation" "Lcom/example/arbiter/arbiter/DocumentOperation;" .null := D109 (Or.inr wo27) (ty := (.object "com/example/arbiter/arbiter/DocumentOperation")) (by decide)
          have f120 : Fld Z h109 b109 "com/example/arbiter/arbiter/NodeRule" "sign" "Lcom/example/arbiter/arbiter/NodeRule$Sign;" .null := D109 (Or.inr wo29) (ty := (.object "com/example/arbiter/arbiter/NodeRule$Sign")) (by decide)
          have f121 : Fld Z h109 b109 "com/example/arbiter/arbiter/NodeRule" "propagation" "Lcom/example/arbiter/arbiter/NodeRule$Propagation;" .null := D109 (Or.inr wo31) (ty := (.object "com/example/arbiter/arbiter/NodeRule$Propagation")) (by decide)
          have pre122 : ∀ t, Steps p.tables e below (T109.setTop (mkF m 124 #[iv p0_0, iv p0_1, iv p0_2, iv p0_3, iv (0 : Int32), rv s_NO_PROP, rv s_DENY, iv lv, iv (0 : Int32), .unset] [(.ref b109), (.ref b109)])) t → Steps p.tables e below (s₁.setTop (entryFrame m #[(.int p0_0), (.int p0_1), (.int p0_2), (.int p0_3)] maxLocals)) t := by
            intro t_ k_
            refine pre76 _ ?_
            show Steps p.tables e below (T6.setTop (mkF m 82 #[iv p0_0, iv p0_1, iv p0_2, iv p0_3, iv (0 : Int32), rv s_NO_PROP, rv s_DENY, iv lv, .unset, .unset] [(.int lv)])) _
            refine XS.ifYes X6.here hx rfl (pc0 := 82) (pc' := 89) rfl (hb hby at_82) rfl ((if0 _ _).trans (feq hc82_75).2) (by decide) (by decide) ?_
            show Steps p.tables e below (T6.setTop (mkF m 89 #[iv p0_0, iv p0_1, iv p0_2, iv p0_3, iv (0 : Int32), rv s_NO_PROP, rv s_DENY, iv lv, .unset, .unset] [])) _
            refine XS.iconst X6.here hx rfl (hb hby at_89) ?_
            show Steps p.tables e below (T6.setTop (mkF m 90 #[iv p0_0, iv p0_1, iv p0_2, iv p0_3, iv (0 : Int32), rv s_NO_PROP, rv s_DENY, iv lv, .unset, .unset] [(.int (0 : Int32))])) _
            refine XS.istore X6.here hx rfl (hb hby at_90) rfl (l' := #[iv p0_0, iv p0_1, iv p0_2, iv p0_3, iv (0 : Int32), rv s_NO_PROP, rv s_DENY, iv lv, iv (0 : Int32), .unset]) rfl ?_
            show Steps p.tables e below (T6.setTop (mkF m 92 #[iv p0_0, iv p0_1, iv p0_2, iv p0_3, iv (0 : Int32), rv s_NO_PROP, rv s_DENY, iv lv, iv (0 : Int32), .unset] [])) _
            refine XS.goto X6.here hx rfl (pc0 := 92) (pc' := 120) rfl (hb hby at_92) (by decide) (by decide) ?_
            show Steps p.tables e below (T6.setTop (mkF m 120 #[iv p0_0, iv p0_1, iv p0_2, iv p0_3, iv (0 : Int32), rv s_NO_PROP, rv s_DENY, iv lv, iv (0 : Int32), .unset] [])) _
            refine st109 _ ?_
            show Steps p.tables e below (T109.setTop (mkF m 123 #[iv p0_0, iv p0_1, iv p0_2, iv p0_3, iv (0 : Int32), rv s_NO_PROP, rv s_DENY, iv lv, iv (0 : Int32), .unset] [(.ref b109)])) _
            refine XS.dup X109.here hx rfl (hb hby at_123) rfl rfl ?_
            exact k_
          obtain ⟨sa123, T123, h123, k123, X123, e123, E123, S123, K123, hZ, hown, st123⟩ := ldcS (s := s) (vm0 := s.vm) X109 hx hZ hown wo10 (fun d hd => hw d ((by decide +kernel : ∀ d ∈ Bundle.stringAtoms, d ∈ tables_1) d hd)) e109 ((State.WarmedH.refl s).since 0) (Nat.zero_le _) (g := (mkF m 124 #[iv p0_0, iv p0_1, iv p0_2, iv p0_3, iv (0 : Int32), rv s_NO_PROP, rv s_DENY, iv lv, iv (0 : Int32), .unset] [(.ref b109), (.ref b109)])) rfl (hb hby at_124) (n := 4) (by decide) (by decide) (by decide) (by decide)
          have K124 : Keep h0 h123 [] := (K117).ext E123
          have f125 := (A109.ext E123)
          have f126 := (f118.ext E123)
          have f127 := (f119.ext E123)
          have f128 := (f120.ext E123)
          have f129 := (f121.ext E123)
          have f131 := (Nat.le_trans (Nat.le_trans Z0 E109.1) E123.1)
          obtain ⟨_, _, ⟨T130, L130, k130, n130⟩, -, X130, ⟨Lc130, hQ130, l130, y130, z130⟩, st130⟩ := X123.specialBack hx (y := MN1) rfl hown (mvT hZ wo18) (mvT hZ wo19) (mvT hZ wo20) (by decide) (backOf (W := 1) (rm1 l Z a0 hw [] b109 sa123 s_DENY s_NO_PROP h123 n0 f131 f125 g115 f126 f127 f128 f129) hZ wo20 wo9 (by decide) (by decide)) (g := (mkF m 131 #[iv p0_0, iv p0_1, iv p0_2, iv p0_3, iv (0 : Int32), rv s_NO_PROP, rv s_DENY, iv lv, iv (0 : Int32), .unset] [(.ref s_NO_PROP), (.ref s_DENY), .null, (.ref sa123), (.ref b109), (.ref b109)])) rfl (by rw [hml]; rfl) (Steps.refl _) (a := b109) (argsL := [(.ref sa123), .null, (.ref s_DENY), (.ref s_NO_PROP)]) (rest := [(.ref b109)]) (lenOf pd_2 rfl) rfl (by show 2 * 0 + _ ≤ _; exact Nat.le_of_eq rfl) (hb hby at_131) (fun _ _ => ⟨rfl, e123, (by decide : 3 + 0 ≤ _), (by decide : 12 + 0 ≤ _)⟩)
          dsimp only [Pt.U, Pt.locs, Pt.cells, Pt.slots] at X130 l130 y130 z130 st130 hQ130
          rw [l130, y130, z130] at X130
          obtain ⟨rfl, N130q, K130q, hq130_0⟩ := hQ130
          have N132 := Fr.app N0 N130q
          have K133 : Keep h0 T130.heap [] := (K124).trans K130q (allS (P := fun x => x ∈ [] ∨ h0.size ≤ x) (Or.inr bz116) all0)
          have f134 := (((pf_F_s_NO_PROP_levels.ext E109).ext E123).keep K130q (ninS ne110 nin0))
          have f136 := (Nat.le_trans f131 K130q.1)
          have f137 := (f125.keep K130q)
          obtain ⟨cq135, kq135, q135a, q135b, q135c⟩ := isOf hZ rfl f137
          obtain ⟨_, _, ⟨T135, L135, k135, n135⟩, -, X135, ⟨Lc135, hQ135, l135, y135, z135⟩, st135⟩ := X130.virtualBack hx (y := MN3) (z := MN3) hown (mvT hZ wo32) (mvT hZ wo33) (notFace_of_selects (args := #[]) (mvT hZ wo35)) (mvT hZ wo35) (mvT hZ wo34) (by decide) (backOf (W := 0) (rm3 l Z a0 hw [] b109 lv s_NO_PROP (0 : Int32) (T130.heap) n0 f136 hq130_0 f134) hZ wo36 wo9 (by decide) (by decide)) q135a q135c (g := (mkF m 140 #[iv p0_0, iv p0_1, iv p0_2, iv p0_3, iv (0 : Int32), rv s_NO_PROP, rv s_DENY, iv lv, iv (0 : Int32), rv b109] [(.int lv), (.ref b109)])) rfl (by rw [hml]; rfl) (Steps.refl _) (argsL := [(.int lv)]) (rest := []) (lenOf pd_1 rfl) rfl (by show 2 * 0 + _ ≤ _; exact Nat.le_of_eq rfl) (hb hby at_140) (fun _ _ => ⟨rfl, rfl, (by decide : 3 + 0 ≤ _), (by decide : 12 + 0 ≤ _)⟩)
          dsimp only [Pt.U, Pt.locs, Pt.cells, Pt.slots] at X135 l135 y135 z135 st135 hQ135
          rw [l135, y135, z135] at X135
          obtain ⟨rfl, N135q, K135q⟩ := hQ135
          have N138 := Fr.app N132 N135q
          have q139 : (if (0 : Int32) < lv then (0 : Int32) else (1 : Int32)) = (0 : Int32) := if_pos (Classical.not_not.mp (fun q => hc82_75 ((own_z lv hlv).mpr q)))
          have f140 := (Nat.le_trans K123 K130q.1)
          obtain ⟨fs, hr, hrun, hended, -, hW1, hW2, hW3⟩ := X135.leaveW S123 (by rw [K135q]; exact f140) (v := some (.int (1 : Int32))) (fun h => by rw [Bd.returns] at h; cases h)
          refine ⟨_, _, pre122 _ ?_, hrun, hended, _, _, rfl, ?_, hW1, hW2, hW3.mono (by decide) (by decide)⟩
          · show Steps p.tables e below (T109.setTop (mkF m 124 #[iv p0_0, iv p0_1, iv p0_2, iv p0_3, iv (0 : Int32), rv s_NO_PROP, rv s_DENY, iv lv, iv (0 : Int32), .unset] [(.ref b109), (.ref b109)])) _
            refine st123 _ ?_
            show Steps p.tables e below (T123.setTop (mkF m 126 #[iv p0_0, iv p0_1, iv p0_2, iv p0_3, iv (0 : Int32), rv s_NO_PROP, rv s_DENY, iv lv, iv (0 : Int32), .unset] [(.ref sa123), (.ref b109), (.ref b109)])) _
            refine XS.aconstNull X123.here hx rfl (hb hby at_126) ?_
            show Steps p.tables e below (T123.setTop (mkF m 127 #[iv p0_0, iv p0_1, iv p0_2, iv p0_3, iv (0 : Int32), rv s_NO_PROP, rv s_DENY, iv lv, iv (0 : Int32), .unset] [.null, (.ref sa123), (.ref b109), (.ref b109)])) _
            refine XS.aload X123.here hx rfl (hb hby at_127) rfl rfl ?_
            show Steps p.tables e below (T123.setTop (mkF m 129 #[iv p0_0, iv p0_1, iv p0_2, iv p0_3, iv (0 : Int32), rv s_NO_PROP, rv s_DENY, iv lv, iv (0 : Int32), .unset] [(.ref s_DENY), .null, (.ref sa123), (.ref b109), (.ref b109)])) _
            refine XS.aload X123.here hx rfl (hb hby at_129) rfl rfl ?_
            show Steps p.tables e below (T123.setTop (mkF m 131 #[iv p0_0, iv p0_1, iv p0_2, iv p0_3, iv (0 : Int32), rv s_NO_PROP, rv s_DENY, iv lv, iv (0 : Int32), .unset] [(.ref s_NO_PROP), (.ref s_DENY), .null, (.ref sa123), (.ref b109), (.ref b109)])) _
            refine st130.trans ?_
            show Steps p.tables e below (T130.setTop (mkF m 134 #[iv p0_0, iv p0_1, iv p0_2, iv p0_3, iv (0 : Int32), rv s_NO_PROP, rv s_DENY, iv lv, iv (0 : Int32), .unset] [(.ref b109)])) _
            refine XS.astore X130.here hx rfl (hb hby at_134) rfl rfl (l' := #[iv p0_0, iv p0_1, iv p0_2, iv p0_3, iv (0 : Int32), rv s_NO_PROP, rv s_DENY, iv lv, iv (0 : Int32), rv b109]) rfl ?_
            show Steps p.tables e below (T130.setTop (mkF m 136 #[iv p0_0, iv p0_1, iv p0_2, iv p0_3, iv (0 : Int32), rv s_NO_PROP, rv s_DENY, iv lv, iv (0 : Int32), rv b109] [])) _
            refine XS.aload X130.here hx rfl (hb hby at_136) rfl rfl ?_
            show Steps p.tables e below (T130.setTop (mkF m 138 #[iv p0_0, iv p0_1, iv p0_2, iv p0_3, iv (0 : Int32), rv s_NO_PROP, rv s_DENY, iv lv, iv (0 : Int32), rv b109] [(.ref b109)])) _
            refine XS.iload X130.here hx rfl (hb hby at_138) rfl ?_
            show Steps p.tables e below (T130.setTop (mkF m 140 #[iv p0_0, iv p0_1, iv p0_2, iv p0_3, iv (0 : Int32), rv s_NO_PROP, rv s_DENY, iv lv, iv (0 : Int32), rv b109] [(.int lv), (.ref b109)])) _
            refine st135.trans ?_
            rw [q139]
            show Steps p.tables e below (T135.setTop (mkF m 143 #[iv p0_0, iv p0_1, iv p0_2, iv p0_3, iv (0 : Int32), rv s_NO_PROP, rv s_DENY, iv lv, iv (0 : Int32), rv b109] [(.int (0 : Int32))])) _
            show Steps p.tables e below (T135.setTop (mkF m 143 #[iv p0_0, iv p0_1, iv p0_2, iv p0_3, iv (0 : Int32), rv s_NO_PROP, rv s_DENY, iv lv, iv (0 : Int32), rv b109] [(.int (0 : Int32))])) _
            refine XS.iload X135.here hx rfl (hb hby at_143) rfl ?_
            show Steps p.tables e below (T135.setTop (mkF m 145 #[iv p0_0, iv p0_1, iv p0_2, iv p0_3, iv (0 : Int32), rv s_NO_PROP, rv s_DENY, iv lv, iv (0 : Int32), rv b109] [(.int (0 : Int32)), (.int (0 : Int32))])) _
            refine XS.icmpNo X135.here hx rfl (hb hby at_145) rfl (teq (by decide : (0 : Int32) = (0 : Int32))).2 ?_
            show Steps p.tables e below (T135.setTop (mkF m 148 #[iv p0_0, iv p0_1, iv p0_2, iv p0_3, iv (0 : Int32), rv s_NO_PROP, rv s_DENY, iv lv, iv (0 : Int32), rv b109] [])) _
            refine XS.iconst X135.here hx rfl (hb hby at_148) ?_
            show Steps p.tables e below (T135.setTop (mkF m 149 #[iv p0_0, iv p0_1, iv p0_2, iv p0_3, iv (0 : Int32), rv s_NO_PROP, rv s_DENY, iv lv, iv (0 : Int32), rv b109] [(.int (1 : Int32))])) _
            refine XS.goto X135.here hx rfl (pc0 := 149) (pc' := 153) rfl (hb hby at_149) (by decide) (by decide) ?_
            show Steps p.tables e below (T135.setTop (mkF m 153 #[iv p0_0, iv p0_1, iv p0_2, iv p0_3, iv (0 : Int32), rv s_NO_PROP, rv s_DENY, iv lv, iv (0 : Int32), rv b109] [(.int (1 : Int32))])) _
            exact retN X135 hx (t := .boolean) Bd.returns (by simp) (hb hby at_153) hr
          · show Q_rm0 Z _ _ _ _ _ _ _ _ _ h0 n0 _ T135.heap _
            rw [K135q]
            exact ⟨rfl, N138, (K133)⟩
    · skip
      obtain ⟨T141, X141, e141, st141⟩ := getS2 X3 hx hZ hown (host := "") (Or.inl wo4) Via.refl e3 (pf_S_com_example_arbiter_arbiter_NodeRule_Sign_GRANT.ext pf_O.2) (g := (mkF m 46 #[iv p0_0, iv p0_1, iv p0_2, iv p0_3, iv (0 : Int32), rv s_NO_PROP, .unset, .unset, .unset, .unset] [])) rfl (hb hby at_46)
      have pre143 : ∀ t, Steps p.tables e below (T141.setTop (mkF m 60 #[iv p0_0, iv p0_1, iv p0_2, iv p0_3, iv (0 : Int32), rv s_NO_PROP, rv s_GRANT, .unset, .unset, .unset] [(.int (p0_3 &&& (1 : Int32)))])) t → Steps p.tables e below (s₁.setTop (entryFrame m #[(.int p0_0), (.int p0_1), (.int p0_2), (.int p0_3)] maxLocals)) t := by
        intro t_ k_
        refine pre5 _ ?_
        show Steps p.tables e below (T3.setTop (mkF m 43 #[iv p0_0, iv p0_1, iv p0_2, iv p0_3, iv (0 : Int32), rv s_NO_PROP, .unset, .unset, .unset, .unset] [(.int (p0_1 &&& (1 : Int32)))])) _
        refine XS.ifNo X3.here hx rfl (hb hby at_43) rfl ((if0 _ _).trans (feq hc43_4).1) ?_
        show Steps p.tables e below (T3.setTop (mkF m 46 #[iv p0_0, iv p0_1, iv p0_2, iv p0_3, iv (0 : Int32), rv s_NO_PROP, .unset, .unset, .unset, .unset] [])) _
        refine st141 _ ?_
        show Steps p.tables e below (T141.setTop (mkF m 49 #[iv p0_0, iv p0_1, iv p0_2, iv p0_3, iv (0 : Int32), rv s_NO_PROP, .unset, .unset, .unset, .unset] [(.ref s_GRANT)])) _
        refine XS.goto X141.here hx rfl (pc0 := 49) (pc' := 55) rfl (hb hby at_49) (by decide) (by decide) ?_
        show Steps p.tables e below (T141.setTop (mkF m 55 #[iv p0_0, iv p0_1, iv p0_2, iv p0_3, iv (0 : Int32), rv s_NO_PROP, .unset, .unset, .unset, .unset] [(.ref s_GRANT)])) _
        refine XS.astore X141.here hx rfl (hb hby at_55) rfl rfl (l' := #[iv p0_0, iv p0_1, iv p0_2, iv p0_3, iv (0 : Int32), rv s_NO_PROP, rv s_GRANT, .unset, .unset, .unset]) rfl ?_
        show Steps p.tables e below (T141.setTop (mkF m 57 #[iv p0_0, iv p0_1, iv p0_2, iv p0_3, iv (0 : Int32), rv s_NO_PROP, rv s_GRANT, .unset, .unset, .unset] [])) _
        refine XS.iloadN X141.here hx rfl (hb hby at_57) rfl ?_
        show Steps p.tables e below (T141.setTop (mkF m 58 #[iv p0_0, iv p0_1, iv p0_2, iv p0_3, iv (0 : Int32), rv s_NO_PROP, rv s_GRANT, .unset, .unset, .unset] [(.int p0_3)])) _
        refine XS.iconst X141.here hx rfl (hb hby at_58) ?_
        show Steps p.tables e below (T141.setTop (mkF m 59 #[iv p0_0, iv p0_1, iv p0_2, iv p0_3, iv (0 : Int32), rv s_NO_PROP, rv s_GRANT, .unset, .unset, .unset] [(.int (1 : Int32)), (.int p0_3)])) _
        refine XS.iand X141.here hx rfl (hb hby at_59) rfl ?_
        exact k_
      by_cases hc60_142 : (p0_3 &&& (1 : Int32)) = (0 : Int32)
      · skip
        obtain ⟨lv, h_lv⟩ : ∃ z : Int32, z = (p0_2 &&& (2147483647 : Int32)) := ⟨_, rfl⟩
        have hlv : 0 ≤ lv.toInt := by rw [h_lv]; first | exact own_3 _ | exact own_m _
        have pre145 : ∀ t, Steps p.tables e below (T141.setTop (mkF m 82 #[iv p0_0, iv p0_1, iv p0_2, iv p0_3, iv (0 : Int32), rv s_NO_PROP, rv s_GRANT, iv lv, .unset, .unset] [(.int lv)])) t → Steps p.tables e below (s₁.setTop (entryFrame m #[(.int p0_0), (.int p0_1), (.int p0_2), (.int p0_3)] maxLocals)) t := by
          intro t_ k_
          refine pre143 _ ?_
          show Steps p.tables e below (T141.setTop (mkF m 60 #[iv p0_0, iv p0_1, iv p0_2, iv p0_3, iv (0 : Int32), rv s_NO_PROP, rv s_GRANT, .unset, .unset, .unset] [(.int (p0_3 &&& (1 : Int32)))])) _
          refine XS.ifYes X141.here hx rfl (pc0 := 60) (pc' := 69) rfl (hb hby at_60) rfl ((if0 _ _).trans (teq hc60_142).1) (by decide) (by decide) ?_
          show Steps p.tables e below (T141.setTop (mkF m 69 #[iv p0_0, iv p0_1, iv p0_2, iv p0_3, iv (0 : Int32), rv s_NO_PROP, rv s_GRANT, .unset, .unset, .unset] [])) _
          refine XS.iloadN X141.here hx rfl (hb hby at_69) rfl ?_
          show Steps p.tables e below (T141.setTop (mkF m 70 #[iv p0_0, iv p0_1, iv p0_2, iv p0_3, iv (0 : Int32), rv s_NO_PROP, rv s_GRANT, .unset, .unset, .unset] [(.int p0_2)])) _
          refine X141.ldcInt hx hown (mvT hZ wo0) (g := (mkF m 70 #[iv p0_0, iv p0_1, iv p0_2, iv p0_3, iv (0 : Int32), rv s_NO_PROP, rv s_GRANT, .unset, .unset, .unset] [(.int p0_2)])) rfl (hb hby at_70) _ ?_
          show Steps p.tables e below (T141.setTop (mkF m 72 #[iv p0_0, iv p0_1, iv p0_2, iv p0_3, iv (0 : Int32), rv s_NO_PROP, rv s_GRANT, .unset, .unset, .unset] [(.int (2147483647 : Int32)), (.int p0_2)])) _
          refine XS.iand X141.here hx rfl (hb hby at_72) rfl ?_
          show Steps p.tables e below (T141.setTop (mkF m 73 #[iv p0_0, iv p0_1, iv p0_2, iv p0_3, iv (0 : Int32), rv s_NO_PROP, rv s_GRANT, .unset, .unset, .unset] [(.int (p0_2 &&& (2147483647 : Int32)))])) _
          refine XS.istore X141.here hx rfl (hb hby at_73) rfl (l' := #[iv p0_0, iv p0_1, iv p0_2, iv p0_3, iv (0 : Int32), rv s_NO_PROP, rv s_GRANT, iv (p0_2 &&& (2147483647 : Int32)), .unset, .unset]) rfl ?_
          rw [← h_lv]
          show Steps p.tables e below (T141.setTop (mkF m 75 #[iv p0_0, iv p0_1, iv p0_2, iv p0_3, iv (0 : Int32), rv s_NO_PROP, rv s_GRANT, iv lv, .unset, .unset] [])) _
          show Steps p.tables e below (T141.setTop (mkF m 75 #[iv p0_0, iv p0_1, iv p0_2, iv p0_3, iv (0 : Int32), rv s_NO_PROP, rv s_GRANT, iv lv, .unset, .unset] [])) _
          refine XS.iload X141.here hx rfl (hb hby at_75) rfl ?_
          show Steps p.tables e below (T141.setTop (mkF m 77 #[iv p0_0, iv p0_1, iv p0_2, iv p0_3, iv (0 : Int32), rv s_NO_PROP, rv s_GRANT, iv lv, .unset, .unset] [(.int (0 : Int32))])) _
          refine XS.ifNo X141.here hx rfl (hb hby at_77) rfl ((if0 _ _).trans (teq (by decide : (0 : Int32) = (0 : Int32))).2) ?_
          show Steps p.tables e below (T141.setTop (mkF m 80 #[iv p0_0, iv p0_1, iv p0_2, iv p0_3, iv (0 : Int32), rv s_NO_PROP, rv s_GRANT, iv lv, .unset, .unset] [])) _
          refine XS.iload X141.here hx rfl (hb hby at_80) rfl ?_
          exact k_
        by_cases hc82_144 : lv = (0 : Int32)
        · skip
          obtain ⟨T146, h146, X146, e146, E146, A146, D146, -, st146⟩ := newO X141 hx hZ hown wo7 wo8 wo9 e141 (g := (mkF m 120 #[iv p0_0, iv p0_1, iv p0_2, iv p0_3, iv (0 : Int32), rv s_NO_PROP, rv s_GRANT, iv lv, iv (1 : Int32), .unset] [])) rfl (hb hby at_120) (by decide) (by decide)
          obtain ⟨b146, gg146⟩ : ∃ z, z = h0.size := ⟨_, rfl⟩
          rw [← gg146] at A146 D146 st146
          have ne147 : s_NO_PROP ≠ b146 := Nat.ne_of_lt (Nat.lt_of_lt_of_le pf_E_s_NO_PROP.lt (Nat.le_of_eq gg146.symm))
          have ne148 : s_GRANT ≠ b146 := Nat.ne_of_lt (Nat.lt_of_lt_of_le pf_E_s_GRANT.lt (Nat.le_of_eq gg146.symm))
          have ne149 : s_FIRST_LEVEL ≠ b146 := Nat.ne_of_lt (Nat.lt_of_lt_of_le pf_E_s_FIRST_LEVEL.lt (Nat.le_of_eq gg146.symm))
          have ne150 : s_DENY ≠ b146 := Nat.ne_of_lt (Nat.lt_of_lt_of_le pf_E_s_DENY.lt (Nat.le_of_eq gg146.symm))
          have ne151 : s_CASCADE ≠ b146 := Nat.ne_of_lt (Nat.lt_of_lt_of_le pf_E_s_CASCADE.lt (Nat.le_of_eq gg146.symm))
          have g152 : n0 ≤ b146 := Nat.le_trans Z0 (Nat.le_of_eq gg146.symm)
          have bz153 : h0.size ≤ b146 := Nat.le_trans (Keep.refl h0 []).1 (Nat.le_of_eq gg146.symm)
          have K154 : Keep h0 h146 [] := (Keep.refl h0 []).ext E146
          have f155 : Fld Z h146 b146 "com/example/arbiter/arbiter/NodeRule" "path" "Ljava/lang/String;" .null := D146 (Or.inr wo25) (ty := (.object "java/lang/String")) (by decide)
          have f156 : Fld Z h146 b146 "com/example/arbiter/arbiter/NodeRule" "operation" "Lcom/example/arbiter/arbiter/DocumentOperation;" .null := D146 (Or.inr wo27) (ty := (.object "com/example/arbiter/arbiter/DocumentOperation")) (by decide)
          have f157 : Fld Z h146 b146 "com/example/arbiter/arbiter/NodeRule" "sign" "Lcom/example/arbiter/arbiter/NodeRule$Sign;" .null := D146 (Or.inr wo29) (ty := (.object "com/example/arbiter/arbiter/NodeRule$Sign")) (by decide)
          have f158 : Fld Z h146 b146 "com/example/arbiter/arbiter/NodeRule" "propagation" "Lcom/example/arbiter/arbiter/NodeRule$Propagation;" .null := D146 (Or.inr wo31) (ty := (.object "com/example/arbiter/arbiter/NodeRule$Propagation")) (by decide)
          have pre159 : ∀ t, Steps p.tables e below (T146.setTop (mkF m 124 #[iv p0_0, iv p0_1, iv p0_2, iv p0_3, iv (0 : Int32), rv s_NO_PROP, rv s_GRANT, iv lv, iv (1 : Int32), .unset] [(.ref b146), (.ref b146)])) t → Steps p.tables e below (s₁.setTop (entryFrame m #[(.int p0_0), (.int p0_1), (.int p0_2), (.int p0_3)] maxLocals)) t := by
            intro t_ k_
            refine pre145 _ ?_
            show Steps p.tables e below (T141.setTop (mkF m 82 #[iv p0_0, iv p0_1, iv p0_2, iv p0_3, iv (0 : Int32), rv s_NO_PROP, rv s_GRANT, iv lv, .unset, .unset] [(.int lv)])) _
            refine XS.ifNo X141.here hx rfl (hb hby at_82) rfl ((if0 _ _).trans (teq hc82_144).2) ?_
            show Steps p.tables e below (T141.setTop (mkF m 85 #[iv p0_0, iv p0_1, iv p0_2, iv p0_3, iv (0 : Int32), rv s_NO_PROP, rv s_GRANT, iv lv, .unset, .unset] [])) _
            refine XS.iconst X141.here hx rfl (hb hby at_85) ?_
            show Steps p.tables e below (T141.setTop (mkF m 86 #[iv p0_0, iv p0_1, iv p0_2, iv p0_3, iv (0 : Int32), rv s_NO_PROP, rv s_GRANT, iv lv, .unset, .unset] [(.int (1 : Int32))])) _
            refine XS.goto X141.here hx rfl (pc0 := 86) (pc' := 90) rfl (hb hby at_86) (by decide) (by decide) ?_
            show Steps p.tables e below (T141.setTop (mkF m 90 #[iv p0_0, iv p0_1, iv p0_2, iv p0_3, iv (0 : Int32), rv s_NO_PROP, rv s_GRANT, iv lv, .unset, .unset] [(.int (1 : Int32))])) _
            refine XS.istore X141.here hx rfl (hb hby at_90) rfl (l' := #[iv p0_0, iv p0_1, iv p0_2, iv p0_3, iv (0 : Int32), rv s_NO_PROP, rv s_GRANT, iv lv, iv (1 : Int32), .unset]) rfl ?_
            show Steps p.tables e below (T141.setTop (mkF m 92 #[iv p0_0, iv p0_1, iv p0_2, iv p0_3, iv (0 : Int32), rv s_NO_PROP, rv s_GRANT, iv lv, iv (1 : Int32), .unset] [])) _
            refine XS.goto X141.here hx rfl (pc0 := 92) (pc' := 120) rfl (hb hby at_92) (by decide) (by decide) ?_
            show Steps p.tables e below (T141.setTop (mkF m 120 #[iv p0_0, iv p0_1, iv p0_2, iv p0_3, iv (0 : Int32), rv s_NO_PROP, rv s_GRANT, iv lv, iv (1 : Int32), .unset] [])) _
            refine st146 _ ?_
            show Steps p.tables e below (T146.setTop (mkF m 123 #[iv p0_0, iv p0_1, iv p0_2, iv p0_3, iv (0 : Int32), rv s_NO_PROP, rv s_GRANT, iv lv, iv (1 : Int32), .unset] [(.ref b146)])) _
            refine XS.dup X146.here hx rfl (hb hby at_123) rfl rfl ?_
            exact k_
          obtain ⟨sa160, T160, h160, k160, X160, e160, E160, S160, K160, hZ, hown, st160⟩ := ldcS (s := s) (vm0 := s.vm) X146 hx hZ hown wo10 (fun d hd => hw d ((by decide +kernel : ∀ d ∈ Bundle.stringAtoms, d ∈ tables_1) d hd)) e146 ((State.WarmedH.refl s).since 0) (Nat.zero_le _) (g := (mkF m 124 #[iv p0_0, iv p0_1, iv p0_2, iv p0_3, iv (0 : Int32), rv s_NO_PROP, rv s_GRANT, iv lv, iv (1 : Int32), .unset] [(.ref b146), (.ref b146)])) rfl (hb hby at_124) (n := 4) (by decide) (by decide) (by decide) (by decide)
          have K161 : Keep h0 h160 [] := (K154).ext E160
          have f162 := (A146.ext E160)
          have f163 := (f155.ext E160)
          have f164 := (f156.ext E160)
          have f165 := (f157.ext E160)
          have f166 := (f158.ext E160)
          have f168 := (Nat.le_trans (Nat.le_trans Z0 E146.1) E160.1)
          obtain ⟨_, _, ⟨T167, L167, k167, n167⟩, -, X167, ⟨Lc167, hQ167, l167, y167, z167⟩, st167⟩ := X160.specialBack hx (y := MN1) rfl hown (mvT hZ wo18) (mvT hZ wo19) (mvT hZ wo20) (by decide) (backOf (W := 1) (rm1 l Z a0 hw [] b146 sa160 s_GRANT s_NO_PROP h160 n0 f168 f162 g152 f163 f164 f165 f166) hZ wo20 wo9 (by decide) (by decide)) (g := (mkF m 131 #[iv p0_0, iv p0_1, iv p0_2, iv p0_3, iv (0 : Int32), rv s_NO_PROP, rv s_GRANT, iv lv, iv (1 : Int32), .unset] [(.ref s_NO_PROP), (.ref s_GRANT), .null, (.ref sa160), (.ref b146), (.ref b146)])) rfl (by rw [hml]; rfl) (Steps.refl _) (a := b146) (argsL := [(.ref sa160), .null, (.ref s_GRANT), (.ref s_NO_PROP)]) (rest := [(.ref b146)]) (lenOf pd_2 rfl) rfl (by show 2 * 0 + _ ≤ _; exact Nat.le_of_eq rfl) (hb hby at_131) (fun _ _ => ⟨rfl, e160, (by decide : 3 + 0 ≤ _), (by decide : 12 + 0 ≤ _)⟩)
          dsimp only [Pt.U, Pt.locs, Pt.cells, Pt.slots] at X167 l167 y167 z167 st167 hQ167
          rw [l167, y167, z167] at X167
          obtain ⟨rfl, N167q, K167q, hq167_0⟩ := hQ167
          have N169 := Fr.app N0 N167q
          have K170 : Keep h0 T167.heap [] := (K161).trans K167q (allS (P := fun x => x ∈ [] ∨ h0.size ≤ x) (Or.inr bz153) all0)
          have f171 := (((pf_F_s_NO_PROP_levels.ext E146).ext E160).keep K167q (ninS ne147 nin0))
          have f173 := (Nat.le_trans f168 K167q.1)
          have f174 := (f162.keep K167q)
          obtain ⟨cq172, kq172, q172a, q172b, q172c⟩ := isOf hZ rfl f174
          obtain ⟨_, _, ⟨T172, L172, k172, n172⟩, -, X172, ⟨Lc172, hQ172, l172, y172, z172⟩, st172⟩ := X167.virtualBack hx (y := MN3) (z := MN3) hown (mvT hZ wo32) (mvT hZ wo33) (notFace_of_selects (args := #[]) (mvT hZ wo35)) (mvT hZ wo35) (mvT hZ wo34) (by decide) (backOf (W := 0) (rm3 l Z a0 hw [] b146 lv s_NO_PROP (0 : Int32) (T167.heap) n0 f173 hq167_0 f171) hZ wo36 wo9 (by decide) (by decide)) q172a q172c (g := (mkF m 140 #[iv p0_0, iv p0_1, iv p0_2, iv p0_3, iv (0 : Int32), rv s_NO_PROP, rv s_GRANT, iv lv, iv (1 : Int32), rv b146] [(.int lv), (.ref b146)])) rfl (by rw [hml]; rfl) (Steps.refl _) (argsL := [(.int lv)]) (rest := []) (lenOf pd_1 rfl) rfl (by show 2 * 0 + _ ≤ _; exact Nat.le_of_eq rfl) (hb hby at_140) (fun _ _ => ⟨rfl, rfl, (by decide : 3 + 0 ≤ _), (by decide : 12 + 0 ≤ _)⟩)
          dsimp only [Pt.U, Pt.locs, Pt.cells, Pt.slots] at X172 l172 y172 z172 st172 hQ172
          rw [l172, y172, z172] at X172
          obtain ⟨rfl, N172q, K172q⟩ := hQ172
          have N175 := Fr.app N169 N172q
          have q176 : (if (0 : Int32) < lv then (0 : Int32) else (1 : Int32)) = (1 : Int32) := if_neg ((own_z lv hlv).mp hc82_144)
          have f177 := (Nat.le_trans K160 K167q.1)
          obtain ⟨fs, hr, hrun, hended, -, hW1, hW2, hW3⟩ := X172.leaveW S160 (by rw [K172q]; exact f177) (v := some (.int (1 : Int32))) (fun h => by rw [Bd.returns] at h; cases h)
          refine ⟨_, _, pre159 _ ?_, hrun, hended, _, _, rfl, ?_, hW1, hW2, hW3.mono (by decide) (by decide)⟩
          · show Steps p.tables e below (T146.setTop (mkF m 124 #[iv p0_0, iv p0_1, iv p0_2, iv p0_3, iv (0 : Int32), rv s_NO_PROP, rv s_GRANT, iv lv, iv (1 : Int32), .unset] [(.ref b146), (.ref b146)])) _
            refine st160 _ ?_
            show Steps p.tables e below (T160.setTop (mkF m 126 #[iv p0_0, iv p0_1, iv p0_2, iv p0_3, iv (0 : Int32), rv s_NO_PROP, rv s_GRANT, iv lv, iv (1 : Int32), .unset] [(.ref sa160), (.ref b146), (.ref b146)])) _
            refine XS.aconstNull X160.here hx rfl (hb hby at_126) ?_
            show Steps p.tables e below (T160.setTop (mkF m 127 #[iv p0_0, iv p0_1, iv p0_2, iv p0_3, iv (0 : Int32), rv s_NO_PROP, rv s_GRANT, iv lv, iv (1 : Int32), .unset] [.null, (.ref sa160), (.ref b146), (.ref b146)])) _
            refine XS.aload X160.here hx rfl (hb hby at_127) rfl rfl ?_
            show Steps p.tables e below (T160.setTop (mkF m 129 #[iv p0_0, iv p0_1, iv p0_2, iv p0_3, iv (0 : Int32), rv s_NO_PROP, rv s_GRANT, iv lv, iv (1 : Int32), .unset] [(.ref s_GRANT), .null, (.ref sa160), (.ref b146), (.ref b146)])) _
            refine XS.aload X160.here hx rfl (hb hby at_129) rfl rfl ?_
            show Steps p.tables e below (T160.setTop (mkF m 131 #[iv p0_0, iv p0_1, iv p0_2, iv p0_3, iv (0 : Int32), rv s_NO_PROP, rv s_GRANT, iv lv, iv (1 : Int32), .unset] [(.ref s_NO_PROP), (.ref s_GRANT), .null, (.ref sa160), (.ref b146), (.ref b146)])) _
            refine st167.trans ?_
            show Steps p.tables e below (T167.setTop (mkF m 134 #[iv p0_0, iv p0_1, iv p0_2, iv p0_3, iv (0 : Int32), rv s_NO_PROP, rv s_GRANT, iv lv, iv (1 : Int32), .unset] [(.ref b146)])) _
            refine XS.astore X167.here hx rfl (hb hby at_134) rfl rfl (l' := #[iv p0_0, iv p0_1, iv p0_2, iv p0_3, iv (0 : Int32), rv s_NO_PROP, rv s_GRANT, iv lv, iv (1 : Int32), rv b146]) rfl ?_
            show Steps p.tables e below (T167.setTop (mkF m 136 #[iv p0_0, iv p0_1, iv p0_2, iv p0_3, iv (0 : Int32), rv s_NO_PROP, rv s_GRANT, iv lv, iv (1 : Int32), rv b146] [])) _
            refine XS.aload X167.here hx rfl (hb hby at_136) rfl rfl ?_
            show Steps p.tables e below (T167.setTop (mkF m 138 #[iv p0_0, iv p0_1, iv p0_2, iv p0_3, iv (0 : Int32), rv s_NO_PROP, rv s_GRANT, iv lv, iv (1 : Int32), rv b146] [(.ref b146)])) _
            refine XS.iload X167.here hx rfl (hb hby at_138) rfl ?_
            show Steps p.tables e below (T167.setTop (mkF m 140 #[iv p0_0, iv p0_1, iv p0_2, iv p0_3, iv (0 : Int32), rv s_NO_PROP, rv s_GRANT, iv lv, iv (1 : Int32), rv b146] [(.int lv), (.ref b146)])) _
            refine st172.trans ?_
            rw [q176]
            show Steps p.tables e below (T172.setTop (mkF m 143 #[iv p0_0, iv p0_1, iv p0_2, iv p0_3, iv (0 : Int32), rv s_NO_PROP, rv s_GRANT, iv lv, iv (1 : Int32), rv b146] [(.int (1 : Int32))])) _
            show Steps p.tables e below (T172.setTop (mkF m 143 #[iv p0_0, iv p0_1, iv p0_2, iv p0_3, iv (0 : Int32), rv s_NO_PROP, rv s_GRANT, iv lv, iv (1 : Int32), rv b146] [(.int (1 : Int32))])) _
            refine XS.iload X172.here hx rfl (hb hby at_143) rfl ?_
            show Steps p.tables e below (T172.setTop (mkF m 145 #[iv p0_0, iv p0_1, iv p0_2, iv p0_3, iv (0 : Int32), rv s_NO_PROP, rv s_GRANT, iv lv, iv (1 : Int32), rv b146] [(.int (1 : Int32)), (.int (1 : Int32))])) _
            refine XS.icmpNo X172.here hx rfl (hb hby at_145) rfl (teq (by decide : (1 : Int32) = (1 : Int32))).2 ?_
            show Steps p.tables e below (T172.setTop (mkF m 148 #[iv p0_0, iv p0_1, iv p0_2, iv p0_3, iv (0 : Int32), rv s_NO_PROP, rv s_GRANT, iv lv, iv (1 : Int32), rv b146] [])) _
            refine XS.iconst X172.here hx rfl (hb hby at_148) ?_
            show Steps p.tables e below (T172.setTop (mkF m 149 #[iv p0_0, iv p0_1, iv p0_2, iv p0_3, iv (0 : Int32), rv s_NO_PROP, rv s_GRANT, iv lv, iv (1 : Int32), rv b146] [(.int (1 : Int32))])) _
            refine XS.goto X172.here hx rfl (pc0 := 149) (pc' := 153) rfl (hb hby at_149) (by decide) (by decide) ?_
            show Steps p.tables e below (T172.setTop (mkF m 153 #[iv p0_0, iv p0_1, iv p0_2, iv p0_3, iv (0 : Int32), rv s_NO_PROP, rv s_GRANT, iv lv, iv (1 : Int32), rv b146] [(.int (1 : Int32))])) _
            exact retN X172 hx (t := .boolean) Bd.returns (by simp) (hb hby at_153) hr
          · show Q_rm0 Z _ _ _ _ _ _ _ _ _ h0 n0 _ T172.heap _
            rw [K172q]
            exact ⟨rfl, N175, (K170)⟩
        · skip
          obtain ⟨T178, h178, X178, e178, E178, A178, D178, -, st178⟩ := newO X141 hx hZ hown wo7 wo8 wo9 e141 (g := (mkF m 120 #[iv p0_0, iv p0_1, iv p0_2, iv p0_3, iv (0 : Int32), rv s_NO_PROP, rv s_GRANT, iv lv, iv (0 : Int32), .unset] [])) rfl (hb hby at_120) (by decide) (by decide)
          obtain ⟨b178, gg178⟩ : ∃ z, z = h0.size := ⟨_, rfl⟩
          rw [← gg178] at A178 D178 st178
          have ne179 : s_NO_PROP ≠ b178 := Nat.ne_of_lt (Nat.lt_of_lt_of_le pf_E_s_NO_PROP.lt (Nat.le_of_eq gg178.symm))
          have ne180 : s_GRANT ≠ b178 := Nat.ne_of_lt (Nat.lt_of_lt_of_le pf_E_s_GRANT.lt (Nat.le_of_eq gg178.symm))
          have ne181 : s_FIRST_LEVEL ≠ b178 := Nat.ne_of_lt (Nat.lt_of_lt_of_le pf_E_s_FIRST_LEVEL.lt (Nat.le_of_eq gg178.symm))
          have ne182 : s_DENY ≠ b178 := Nat.ne_of_lt (Nat.lt_of_lt_of_le pf_E_s_DENY.lt (Nat.le_of_eq gg178.symm))
          have ne183 : s_CASCADE ≠ b178 := Nat.ne_of_lt (Nat.lt_of_lt_of_le pf_E_s_CASCADE.lt (Nat.le_of_eq gg178.symm))
          have g184 : n0 ≤ b178 := Nat.le_trans Z0 (Nat.le_of_eq gg178.symm)
          have bz185 : h0.size ≤ b178 := Nat.le_trans (Keep.refl h0 []).1 (Nat.le_of_eq gg178.symm)
          have K186 : Keep h0 h178 [] := (Keep.refl h0 []).ext E178
          have f187 : Fld Z h178 b178 "com/example/arbiter/arbiter/NodeRule" "path" "Ljava/lang/String;" .null := D178 (Or.inr wo25) (ty := (.object "java/lang/String")) (by decide)
          have f188 : Fld Z h178 b178 "com/example/arbiter/arbiter/NodeRule" "operation" "Lcom/example/arbiter/arbiter/DocumentOperation;" .null := D178 (Or.inr wo27) (ty := (.object "com/example/arbiter/arbiter/DocumentOperation")) (by decide)
          have f189 : Fld Z h178 b178 "com/example/arbiter/arbiter/NodeRule" "sign" "Lcom/example/arbiter/arbiter/NodeRule$Sign;" .null := D178 (Or.inr wo29) (ty := (.object "com/example/arbiter/arbiter/NodeRule$Sign")) (by decide)
          have f190 : Fld Z h178 b178 "com/example/arbiter/arbiter/NodeRule" "propagation" "Lcom/example/arbiter/arbiter/NodeRule$Propagation;" .null := D178 (Or.inr wo31) (ty := (.object "com/example/arbiter/arbiter/NodeRule$Propagation")) (by decide)
          have pre191 : ∀ t, Steps p.tables e below (T178.setTop (mkF m 124 #[iv p0_0, iv p0_1, iv p0_2, iv p0_3, iv (0 : Int32), rv s_NO_PROP, rv s_GRANT, iv lv, iv (0 : Int32), .unset] [(.ref b178), (.ref b178)])) t → Steps p.tables e below (s₁.setTop (entryFrame m #[(.int p0_0), (.int p0_1), (.int p0_2), (.int p0_3)] maxLocals)) t := by
            intro t_ k_
            refine pre145 _ ?_
            show Steps p.tables e below (T141.setTop (mkF m 82 #[iv p0_0, iv p0_1, iv p0_2, iv p0_3, iv (0 : Int32), rv s_NO_PROP, rv s_GRANT, iv lv, .unset, .unset] [(.int lv)])) _
            refine XS.ifYes X141.here hx rfl (pc0 := 82) (pc' := 89) rfl (hb hby at_82) rfl ((if0 _ _).trans (feq hc82_144).2) (by decide) (by decide) ?_
            show Steps p.tables e below (T141.setTop (mkF m 89 #[iv p0_0, iv p0_1, iv p0_2, iv p0_3, iv (0 : Int32), rv s_NO_PROP, rv s_GRANT, iv lv, .unset, .unset] [])) _
            refine XS.iconst X141.here hx rfl (hb hby at_89) ?_
            show Steps p.tables e below (T141.setTop (mkF m 90 #[iv p0_0, iv p0_1, iv p0_2, iv p0_3, iv (0 : Int32), rv s_NO_PROP, rv s_GRANT, iv lv, .unset, .unset] [(.int (0 : Int32))])) _
            refine XS.istore X141.here hx rfl (hb hby at_90) rfl (l' := #[iv p0_0, iv p0_1, iv p0_2, iv p0_3, iv (0 : Int32), rv s_NO_PROP, rv s_GRANT, iv lv, iv (0 : Int32), .unset]) rfl ?_
            show Steps p.tables e below (T141.setTop (mkF m 92 #[iv p0_0, iv p0_1, iv p0_2, iv p0_3, iv (0 : Int32), rv s_NO_PROP, rv s_GRANT, iv lv, iv (0 : Int32), .unset] [])) _
            refine XS.goto X141.here hx rfl (pc0 := 92) (pc' := 120) rfl (hb hby at_92) (by decide) (by decide) ?_
            show Steps p.tables e below (T141.setTop (mkF m 120 #[iv p0_0, iv p0_1, iv p0_2, iv p0_3, iv (0 : Int32), rv s_NO_PROP, rv s_GRANT, iv lv, iv (0 : Int32), .unset] [])) _
            refine st178 _ ?_
            show Steps p.tables e below (T178.setTop (mkF m 123 #[iv p0_0, iv p0_1, iv p0_2, iv p0_3, iv (0 : Int32), rv s_NO_PROP, rv s_GRANT, iv lv, iv (0 : Int32), .unset] [(.ref b178)])) _
            refine XS.dup X178.here hx rfl (hb hby at_123) rfl rfl ?_
            exact k_
          obtain ⟨sa192, T192, h192, k192, X192, e192, E192, S192, K192, hZ, hown, st192⟩ := ldcS (s := s) (vm0 := s.vm) X178 hx hZ hown wo10 (fun d hd => hw d ((by decide +kernel : ∀ d ∈ Bundle.stringAtoms, d ∈ tables_1) d hd)) e178 ((State.WarmedH.refl s).since 0) (Nat.zero_le _) (g := (mkF m 124 #[iv p0_0, iv p0_1, iv p0_2, iv p0_3, iv (0 : Int32), rv s_NO_PROP, rv s_GRANT, iv lv, iv (0 : Int32), .unset] [(.ref b178), (.ref b178)])) rfl (hb hby at_124) (n := 4) (by decide) (by decide) (by decide) (by decide)
          have K193 : Keep h0 h192 [] := (K186).ext E192
          have f194 := (A178.ext E192)
          have f195 := (f187.ext E192)
          have f196 := (f188.ext E192)
          have f197 := (f189.ext E192)
          have f198 := (f190.ext E192)
          have f200 := (Nat.le_trans (Nat.le_trans Z0 E178.1) E192.1)
          obtain ⟨_, _, ⟨T199, L199, k199, n199⟩, -, X199, ⟨Lc199, hQ199, l199, y199, z199⟩, st199⟩ := X192.specialBack hx (y := MN1) rfl hown (mvT hZ wo18) (mvT hZ wo19) (mvT hZ wo20) (by decide) (backOf (W := 1) (rm1 l Z a0 hw [] b178 sa192 s_GRANT s_NO_PROP h192 n0 f200 f194 g184 f195 f196 f197 f198) hZ wo20 wo9 (by decide) (by decide)) (g := (mkF m 131 #[iv p0_0, iv p0_1, iv p0_2, iv p0_3, iv (0 : Int32), rv s_NO_PROP, rv s_GRANT, iv lv, iv (0 : Int32), .unset] [(.ref s_NO_PROP), (.ref s_GRANT), .null, (.ref sa192), (.ref b178), (.ref b178)])) rfl (by rw [hml]; rfl) (Steps.refl _) (a := b178) (argsL := [(.ref sa192), .null, (.ref s_GRANT), (.ref s_NO_PROP)]) (rest := [(.ref b178)]) (lenOf pd_2 rfl) rfl (by show 2 * 0 + _ ≤ _; exact Nat.le_of_eq rfl) (hb hby at_131) (fun _ _ => ⟨rfl, e192, (by decide : 3 + 0 ≤ _), (by decide : 12 + 0 ≤ _)⟩)
          dsimp only [Pt.U, Pt.locs, Pt.cells, Pt.slots] at X199 l199 y199 z199 st199 hQ199
          rw [l199, y199, z199] at X199
          obtain ⟨rfl, N199q, K199q, hq199_0⟩ := hQ199
          have N201 := Fr.app N0 N199q
          have K202 : Keep h0 T199.heap [] := (K193).trans K199q (allS (P := fun x => x ∈ [] ∨ h0.size ≤ x) (Or.inr bz185) all0)
          have f203 := (((pf_F_s_NO_PROP_levels.ext E178).ext E192).keep K199q (ninS ne179 nin0))
          have f205 := (Nat.le_trans f200 K199q.1)
          have f206 := (f194.keep K199q)
          obtain ⟨cq204, kq204, q204a, q204b, q204c⟩ := isOf hZ rfl f206
          obtain ⟨_, _, ⟨T204, L204, k204, n204⟩, -, X204, ⟨Lc204, hQ204, l204, y204, z204⟩, st204⟩ := X199.virtualBack hx (y := MN3) (z := MN3) hown (mvT hZ wo32) (mvT hZ wo33) (notFace_of_selects (args := #[]) (mvT hZ wo35)) (mvT hZ wo35) (mvT hZ wo34) (by decide) (backOf (W := 0) (rm3 l Z a0 hw [] b178 lv s_NO_PROP (0 : Int32) (T199.heap) n0 f205 hq199_0 f203) hZ wo36 wo9 (by decide) (by decide)) q204a q204c (g := (mkF m 140 #[iv p0_0, iv p0_1, iv p0_2, iv p0_3, iv (0 : Int32), rv s_NO_PROP, rv s_GRANT, iv lv, iv (0 : Int32), rv b178] [(.int lv), (.ref b178)])) rfl (by rw [hml]; rfl) (Steps.refl _) (argsL := [(.int lv)]) (rest := []) (lenOf pd_1 rfl) rfl (by show 2 * 0 + _ ≤ _; exact Nat.le_of_eq rfl) (hb hby at_140) (fun _ _ => ⟨rfl, rfl, (by decide : 3 + 0 ≤ _), (by decide : 12 + 0 ≤ _)⟩)
          dsimp only [Pt.U, Pt.locs, Pt.cells, Pt.slots] at X204 l204 y204 z204 st204 hQ204
          rw [l204, y204, z204] at X204
          obtain ⟨rfl, N204q, K204q⟩ := hQ204
          have N207 := Fr.app N201 N204q
          have q208 : (if (0 : Int32) < lv then (0 : Int32) else (1 : Int32)) = (0 : Int32) := if_pos (Classical.not_not.mp (fun q => hc82_144 ((own_z lv hlv).mpr q)))
          have f209 := (Nat.le_trans K192 K199q.1)
          obtain ⟨fs, hr, hrun, hended, -, hW1, hW2, hW3⟩ := X204.leaveW S192 (by rw [K204q]; exact f209) (v := some (.int (1 : Int32))) (fun h => by rw [Bd.returns] at h; cases h)
          refine ⟨_, _, pre191 _ ?_, hrun, hended, _, _, rfl, ?_, hW1, hW2, hW3.mono (by decide) (by decide)⟩
          · show Steps p.tables e below (T178.setTop (mkF m 124 #[iv p0_0, iv p0_1, iv p0_2, iv p0_3, iv (0 : Int32), rv s_NO_PROP, rv s_GRANT, iv lv, iv (0 : Int32), .unset] [(.ref b178), (.ref b178)])) _
            refine st192 _ ?_
            show Steps p.tables e below (T192.setTop (mkF m 126 #[iv p0_0, iv p0_1, iv p0_2, iv p0_3, iv (0 : Int32), rv s_NO_PROP, rv s_GRANT, iv lv, iv (0 : Int32), .unset] [(.ref sa192), (.ref b178), (.ref b178)])) _
            refine XS.aconstNull X192.here hx rfl (hb hby at_126) ?_
            show Steps p.tables e below (T192.setTop (mkF m 127 #[iv p0_0, iv p0_1, iv p0_2, iv p0_3, iv (0 : Int32), rv s_NO_PROP, rv s_GRANT, iv lv, iv (0 : Int32), .unset] [.null, (.ref sa192), (.ref b178), (.ref b178)])) _
            refine XS.aload X192.here hx rfl (hb hby at_127) rfl rfl ?_
            show Steps p.tables e below (T192.setTop (mkF m 129 #[iv p0_0, iv p0_1, iv p0_2, iv p0_3, iv (0 : Int32), rv s_NO_PROP, rv s_GRANT, iv lv, iv (0 : Int32), .unset] [(.ref s_GRANT), .null, (.ref sa192), (.ref b178), (.ref b178)])) _
            refine XS.aload X192.here hx rfl (hb hby at_129) rfl rfl ?_
            show Steps p.tables e below (T192.setTop (mkF m 131 #[iv p0_0, iv p0_1, iv p0_2, iv p0_3, iv (0 : Int32), rv s_NO_PROP, rv s_GRANT, iv lv, iv (0 : Int32), .unset] [(.ref s_NO_PROP), (.ref s_GRANT), .null, (.ref sa192), (.ref b178), (.ref b178)])) _
            refine st199.trans ?_
            show Steps p.tables e below (T199.setTop (mkF m 134 #[iv p0_0, iv p0_1, iv p0_2, iv p0_3, iv (0 : Int32), rv s_NO_PROP, rv s_GRANT, iv lv, iv (0 : Int32), .unset] [(.ref b178)])) _
            refine XS.astore X199.here hx rfl (hb hby at_134) rfl rfl (l' := #[iv p0_0, iv p0_1, iv p0_2, iv p0_3, iv (0 : Int32), rv s_NO_PROP, rv s_GRANT, iv lv, iv (0 : Int32), rv b178]) rfl ?_
            show Steps p.tables e below (T199.setTop (mkF m 136 #[iv p0_0, iv p0_1, iv p0_2, iv p0_3, iv (0 : Int32), rv s_NO_PROP, rv s_GRANT, iv lv, iv (0 : Int32), rv b178] [])) _
            refine XS.aload X199.here hx rfl (hb hby at_136) rfl rfl ?_
            show Steps p.tables e below (T199.setTop (mkF m 138 #[iv p0_0, iv p0_1, iv p0_2, iv p0_3, iv (0 : Int32), rv s_NO_PROP, rv s_GRANT, iv lv, iv (0 : Int32), rv b178] [(.ref b178)])) _
            refine XS.iload X199.here hx rfl (hb hby at_138) rfl ?_
            show Steps p.tables e below (T199.setTop (mkF m 140 #[iv p0_0, iv p0_1, iv p0_2, iv p0_3, iv (0 : Int32), rv s_NO_PROP, rv s_GRANT, iv lv, iv (0 : Int32), rv b178] [(.int lv), (.ref b178)])) _
            refine st204.trans ?_
            rw [q208]
            show Steps p.tables e below (T204.setTop (mkF m 143 #[iv p0_0, iv p0_1, iv p0_2, iv p0_3, iv (0 : Int32), rv s_NO_PROP, rv s_GRANT, iv lv, iv (0 : Int32), rv b178] [(.int (0 : Int32))])) _
            show Steps p.tables e below (T204.setTop (mkF m 143 #[iv p0_0, iv p0_1, iv p0_2, iv p0_3, iv (0 : Int32), rv s_NO_PROP, rv s_GRANT, iv lv, iv (0 : Int32), rv b178] [(.int (0 : Int32))])) _
            refine XS.iload X204.here hx rfl (hb hby at_143) rfl ?_
            show Steps p.tables e below (T204.setTop (mkF m 145 #[iv p0_0, iv p0_1, iv p0_2, iv p0_3, iv (0 : Int32), rv s_NO_PROP, rv s_GRANT, iv lv, iv (0 : Int32), rv b178] [(.int (0 : Int32)), (.int (0 : Int32))])) _
            refine XS.icmpNo X204.here hx rfl (hb hby at_145) rfl (teq (by decide : (0 : Int32) = (0 : Int32))).2 ?_
            show Steps p.tables e below (T204.setTop (mkF m 148 #[iv p0_0, iv p0_1, iv p0_2, iv p0_3, iv (0 : Int32), rv s_NO_PROP, rv s_GRANT, iv lv, iv (0 : Int32), rv b178] [])) _
            refine XS.iconst X204.here hx rfl (hb hby at_148) ?_
            show Steps p.tables e below (T204.setTop (mkF m 149 #[iv p0_0, iv p0_1, iv p0_2, iv p0_3, iv (0 : Int32), rv s_NO_PROP, rv s_GRANT, iv lv, iv (0 : Int32), rv b178] [(.int (1 : Int32))])) _
            refine XS.goto X204.here hx rfl (pc0 := 149) (pc' := 153) rfl (hb hby at_149) (by decide) (by decide) ?_
            show Steps p.tables e below (T204.setTop (mkF m 153 #[iv p0_0, iv p0_1, iv p0_2, iv p0_3, iv (0 : Int32), rv s_NO_PROP, rv s_GRANT, iv lv, iv (0 : Int32), rv b178] [(.int (1 : Int32))])) _
            exact retN X204 hx (t := .boolean) Bd.returns (by simp) (hb hby at_153) hr
          · show Q_rm0 Z _ _ _ _ _ _ _ _ _ h0 n0 _ T204.heap _
            rw [K204q]
            exact ⟨rfl, N207, (K202)⟩
      · skip
        obtain ⟨lv, h_lv⟩ : ∃ z : Int32, z = (p0_2 &&& (3 : Int32)) := ⟨_, rfl⟩
        have hlv : 0 ≤ lv.toInt := by rw [h_lv]; first | exact own_3 _ | exact own_m _
        have pre211 : ∀ t, Steps p.tables e below (T141.setTop (mkF m 82 #[iv p0_0, iv p0_1, iv p0_2, iv p0_3, iv (0 : Int32), rv s_NO_PROP, rv s_GRANT, iv lv, .unset, .unset] [(.int lv)])) t → Steps p.tables e below (s₁.setTop (entryFrame m #[(.int p0_0), (.int p0_1), (.int p0_2), (.int p0_3)] maxLocals)) t := by
          intro t_ k_
          refine pre143 _ ?_
          show Steps p.tables e below (T141.setTop (mkF m 60 #[iv p0_0, iv p0_1, iv p0_2, iv p0_3, iv (0 : Int32), rv s_NO_PROP, rv s_GRANT, .unset, .unset, .unset] [(.int (p0_3 &&& (1 : Int32)))])) _
          refine XS.ifNo X141.here hx rfl (hb hby at_60) rfl ((if0 _ _).trans (feq hc60_142).1) ?_
          show Steps p.tables e below (T141.setTop (mkF m 63 #[iv p0_0, iv p0_1, iv p0_2, iv p0_3, iv (0 : Int32), rv s_NO_PROP, rv s_GRANT, .unset, .unset, .unset] [])) _
          refine XS.iloadN X141.here hx rfl (hb hby at_63) rfl ?_
          show Steps p.tables e below (T141.setTop (mkF m 64 #[iv p0_0, iv p0_1, iv p0_2, iv p0_3, iv (0 : Int32), rv s_NO_PROP, rv s_GRANT, .unset, .unset, .unset] [(.int p0_2)])) _
          refine XS.iconst X141.here hx rfl (hb hby at_64) ?_
          show Steps p.tables e below (T141.setTop (mkF m 65 #[iv p0_0, iv p0_1, iv p0_2, iv p0_3, iv (0 : Int32), rv s_NO_PROP, rv s_GRANT, .unset, .unset, .unset] [(.int (3 : Int32)), (.int p0_2)])) _
          refine XS.iand X141.here hx rfl (hb hby at_65) rfl ?_
          show Steps p.tables e below (T141.setTop (mkF m 66 #[iv p0_0, iv p0_1, iv p0_2, iv p0_3, iv (0 : Int32), rv s_NO_PROP, rv s_GRANT, .unset, .unset, .unset] [(.int (p0_2 &&& (3 : Int32)))])) _
          refine XS.goto X141.here hx rfl (pc0 := 66) (pc' := 73) rfl (hb hby at_66) (by decide) (by decide) ?_
          show Steps p.tables e below (T141.setTop (mkF m 73 #[iv p0_0, iv p0_1, iv p0_2, iv p0_3, iv (0 : Int32), rv s_NO_PROP, rv s_GRANT, .unset, .unset, .unset] [(.int (p0_2 &&& (3 : Int32)))])) _
          refine XS.istore X141.here hx rfl (hb hby at_73) rfl (l' := #[iv p0_0, iv p0_1, iv p0_2, iv p0_3, iv (0 : Int32), rv s_NO_PROP, rv s_GRANT, iv (p0_2 &&& (3 : Int32)), .unset, .unset]) rfl ?_
          rw [← h_lv]
          show Steps p.tables e below (T141.setTop (mkF m 75 #[iv p0_0, iv p0_1, iv p0_2, iv p0_3, iv (0 : Int32), rv s_NO_PROP, rv s_GRANT, iv lv, .unset, .unset] [])) _
          show Steps p.tables e below (T141.setTop (mkF m 75 #[iv p0_0, iv p0_1, iv p0_2, iv p0_3, iv (0 : Int32), rv s_NO_PROP, rv s_GRANT, iv lv, .unset, .unset] [])) _
          refine XS.iload X141.here hx rfl (hb hby at_75) rfl ?_
          show Steps p.tables e below (T141.setTop (mkF m 77 #[iv p0_0, iv p0_1, iv p0_2, iv p0_3, iv (0 : Int32), rv s_NO_PROP, rv s_GRANT, iv lv, .unset, .unset] [(.int (0 : Int32))])) _
          refine XS.ifNo X141.here hx rfl (hb hby at_77) rfl ((if0 _ _).trans (teq (by decide : (0 : Int32) = (0 : Int32))).2) ?_
          show Steps p.tables e below (T141.setTop (mkF m 80 #[iv p0_0, iv p0_1, iv p0_2, iv p0_3, iv (0 : Int32), rv s_NO_PROP, rv s_GRANT, iv lv, .unset, .unset] [])) _
          refine XS.iload X141.here hx rfl (hb hby at_80) rfl ?_
          exact k_
        by_cases hc82_210 : lv = (0 : Int32)
        · skip
          obtain ⟨T212, h212, X212, e212, E212, A212, D212, -, st212⟩ := newO X141 hx hZ hown wo7 wo8 wo9 e141 (g := (mkF m 120 #[iv p0_0, iv p0_1, iv p0_2, iv p0_3, iv (0 : Int32), rv s_NO_PROP, rv s_GRANT, iv lv, iv (1 : Int32), .unset] [])) rfl (hb hby at_120) (by decide) (by decide)
          obtain ⟨b212, gg212⟩ : ∃ z, z = h0.size := ⟨_, rfl⟩
          rw [← gg212] at A212 D212 st212
          have ne213 : s_NO_PROP ≠ b212 := Nat.ne_of_lt (Nat.lt_of_lt_of_le pf_E_s_NO_PROP.lt (Nat.le_of_eq gg212.symm))
          have ne214 : s_GRANT ≠ b212 := Nat.ne_of_lt (Nat.lt_of_lt_of_le pf_E_s_GRANT.lt (Nat.le_of_eq gg212.symm))
          have ne215 : s_FIRST_LEVEL ≠ b212 := Nat.ne_of_lt (Nat.lt_of_lt_of_le pf_E_s_FIRST_LEVEL.lt (Nat.le_of_eq gg212.symm))
          have ne216 : s_DENY ≠ b212 := Nat.ne_of_lt (Nat.lt_of_lt_of_le pf_E_s_DENY.lt (Nat.le_of_eq gg212.symm))
          have ne217 : s_CASCADE ≠ b212 := Nat.ne_of_lt (Nat.lt_of_lt_of_le pf_E_s_CASCADE.lt (Nat.le_of_eq gg212.symm))
          have g218 : n0 ≤ b212 := Nat.le_trans Z0 (Nat.le_of_eq gg212.symm)
          have bz219 : h0.size ≤ b212 := Nat.le_trans (Keep.refl h0 []).1 (Nat.le_of_eq gg212.symm)
          have K220 : Keep h0 h212 [] := (Keep.refl h0 []).ext E212
          have f221 : Fld Z h212 b212 "com/example/arbiter/arbiter/NodeRule" "path" "Ljava/lang/String;" .null := D212 (Or.inr wo25) (ty := (.object "java/lang/String")) (by decide)
          have f222 : Fld Z h212 b212 "com/example/arbiter/arbiter/NodeRule" "operation" "Lcom/example/arbiter/arbiter/DocumentOperation;" .null := D212 (Or.inr wo27) (ty := (.object "com/example/arbiter/arbiter/DocumentOperation")) (by decide)
          have f223 : Fld Z h212 b212 "com/example/arbiter/arbiter/NodeRule" "sign" "Lcom/example/arbiter/arbiter/NodeRule$Sign;" .null := D212 (Or.inr wo29) (ty := (.object "com/example/arbiter/arbiter/NodeRule$Sign")) (by decide)
          have f224 : Fld Z h212 b212 "com/example/arbiter/arbiter/NodeRule" "propagation" "Lcom/example/arbiter/arbiter/NodeRule$Propagation;" .null := D212 (Or.inr wo31) (ty := (.object "com/example/arbiter/arbiter/NodeRule$Propagation")) (by decide)
          have pre225 : ∀ t, Steps p.tables e below (T212.setTop (mkF m 124 #[iv p0_0, iv p0_1, iv p0_2, iv p0_3, iv (0 : Int32), rv s_NO_PROP, rv s_GRANT, iv lv, iv (1 : Int32), .unset] [(.ref b212), (.ref b212)])) t → Steps p.tables e below (s₁.setTop (entryFrame m #[(.int p0_0), (.int p0_1), (.int p0_2), (.int p0_3)] maxLocals)) t := by
            intro t_ k_
            refine pre211 _ ?_
            show Steps p.tables e below (T141.setTop (mkF m 82 #[iv p0_0, iv p0_1, iv p0_2, iv p0_3, iv (0 : Int32), rv s_NO_PROP, rv s_GRANT, iv lv, .unset, .unset] [(.int lv)])) _
            refine XS.ifNo X141.here hx rfl (hb hby at_82) rfl ((if0 _ _).trans (teq hc82_210).2) ?_
            show Steps p.tables e below (T141.setTop (mkF m 85 #[iv p0_0, iv p0_1, iv p0_2, iv p0_3, iv (0 : Int32), rv s_NO_PROP, rv s_GRANT, iv lv, .unset, .unset] [])) _
            refine XS.iconst X141.here hx rfl (hb hby at_85) ?_
            show Steps p.tables e below (T141.setTop (mkF m 86 #[iv p0_0, iv p0_1, iv p0_2, iv p0_3, iv (0 : Int32), rv s_NO_PROP, rv s_GRANT, iv lv, .unset, .unset] [(.int (1 : Int32))])) _
            refine XS.goto X141.here hx rfl (pc0 := 86) (pc' := 90) rfl (hb hby at_86) (by decide) (by decide) ?_
            show Steps p.tables e below (T141.setTop (mkF m 90 #[iv p0_0, iv p0_1, iv p0_2, iv p0_3, iv (0 : Int32), rv s_NO_PROP, rv s_GRANT, iv lv, .unset, .unset] [(.int (1 : Int32))])) _
            refine XS.istore X141.here hx rfl (hb hby at_90) rfl (l' := #[iv p0_0, iv p0_1, iv p0_2, iv p0_3, iv (0 : Int32), rv s_NO_PROP, rv s_GRANT, iv lv, iv (1 : Int32), .unset]) rfl ?_
            show Steps p.tables e below (T141.setTop (mkF m 92 #[iv p0_0, iv p0_1, iv p0_2, iv p0_3, iv (0 : Int32), rv s_NO_PROP, rv s_GRANT, iv lv, iv (1 : Int32), .unset] [])) _
            refine XS.goto X141.here hx rfl (pc0 := 92) (pc' := 120) rfl (hb hby at_92) (by decide) (by decide) ?_
            show Steps p.tables e below (T141.setTop (mkF m 120 #[iv p0_0, iv p0_1, iv p0_2, iv p0_3, iv (0 : Int32), rv s_NO_PROP, rv s_GRANT, iv lv, iv (1 : Int32), .unset] [])) _
            refine st212 _ ?_
            show Steps p.tables e below (T212.setTop (mkF m 123 #[iv p0_0, iv p0_1, iv p0_2, iv p0_3, iv (0 : Int32), rv s_NO_PROP, rv s_GRANT, iv lv, iv (1 : Int32), .unset] [(.ref b212)])) _
            refine XS.dup X212.here hx rfl (hb hby at_123) rfl rfl ?_
            exact k_
          obtain ⟨sa226, T226, h226, k226, X226, e226, E226, S226, K226, hZ, hown, st226⟩ := ldcS (s := s) (vm0 := s.vm) X212 hx hZ hown wo10 (fun d hd => hw d ((by decide +kernel : ∀ d ∈ Bundle.stringAtoms, d ∈ tables_1) d hd)) e212 ((State.WarmedH.refl s).since 0) (Nat.zero_le _) (g := (mkF m 124 #[iv p0_0, iv p0_1, iv p0_2, iv p0_3, iv (0 : Int32), rv s_NO_PROP, rv s_GRANT, iv lv, iv (1 : Int32), .unset] [(.ref b212), (.ref b212)])) rfl (hb hby at_124) (n := 4) (by decide) (by decide) (by decide) (by decide)
          have K227 : Keep h0 h226 [] := (K220).ext E226
          have f228 := (A212.ext E226)
          have f229 := (f221.ext E226)
          have f230 := (f222.ext E226)
          have f231 := (f223.ext E226)
          have f232 := (f224.ext E226)
          have f234 := (Nat.le_trans (Nat.le_trans Z0 E212.1) E226.1)
          obtain ⟨_, _, ⟨T233, L233, k233, n233⟩, -, X233, ⟨Lc233, hQ233, l233, y233, z233⟩, st233⟩ := X226.specialBack hx (y := MN1) rfl hown (mvT hZ wo18) (mvT hZ wo19) (mvT hZ wo20) (by decide) (backOf (W := 1) (rm1 l Z a0 hw [] b212 sa226 s_GRANT s_NO_PROP h226 n0 f234 f228 g218 f229 f230 f231 f232) hZ wo20 wo9 (by decide) (by decide)) (g := (mkF m 131 #[iv p0_0, iv p0_1, iv p0_2, iv p0_3, iv (0 : Int32), rv s_NO_PROP, rv s_GRANT, iv lv, iv (1 : Int32), .unset] [(.ref s_NO_PROP), (.ref s_GRANT), .null, (.ref sa226), (.ref b212), (.ref b212)])) rfl (by rw [hml]; rfl) (Steps.refl _) (a := b212) (argsL := [(.ref sa226), .null, (.ref s_GRANT), (.ref s_NO_PROP)]) (rest := [(.ref b212)]) (lenOf pd_2 rfl) rfl (by show 2 * 0 + _ ≤ _; exact Nat.le_of_eq rfl) (hb hby at_131) (fun _ _ => ⟨rfl, e226, (by decide : 3 + 0 ≤ _), (by decide : 12 + 0 ≤ _)⟩)
          dsimp only [Pt.U, Pt.locs, Pt.cells, Pt.slots] at X233 l233 y233 z233 st233 hQ233
          rw [l233, y233, z233] at X233
          obtain ⟨rfl, N233q, K233q, hq233_0⟩ := hQ233
          have N235 := Fr.app N0 N233q
          have K236 : Keep h0 T233.heap [] := (K227).trans K233q (allS (P := fun x => x ∈ [] ∨ h0.size ≤ x) (Or.inr bz219) all0)
          have f237 := (((pf_F_s_NO_PROP_levels.ext E212).ext E226).keep K233q (ninS ne213 nin0))
          have f239 := (Nat.le_trans f234 K233q.1)
          have f240 := (f228.keep K233q)
          obtain ⟨cq238, kq238, q238a, q238b, q238c⟩ := isOf hZ rfl f240
          obtain ⟨_, _, ⟨T238, L238, k238, n238⟩, -, X238, ⟨Lc238, hQ238, l238, y238, z238⟩, st238⟩ := X233.virtualBack hx (y := MN3) (z := MN3) hown (mvT hZ wo32) (mvT hZ wo33) (notFace_of_selects (args := #[]) (mvT hZ wo35)) (mvT hZ wo35) (mvT hZ wo34) (by decide) (backOf (W := 0) (rm3 l Z a0 hw [] b212 lv s_NO_PROP (0 : Int32) (T233.heap) n0 f239 hq233_0 f237) hZ wo36 wo9 (by decide) (by decide)) q238a q238c (g := (mkF m 140 #[iv p0_0, iv p0_1, iv p0_2, iv p0_3, iv (0 : Int32), rv s_NO_PROP, rv s_GRANT, iv lv, iv (1 : Int32), rv b212] [(.int lv), (.ref b212)])) rfl (by rw [hml]; rfl) (Steps.refl _) (argsL := [(.int lv)]) (rest := []) (lenOf pd_1 rfl) rfl (by show 2 * 0 + _ ≤ _; exact Nat.le_of_eq rfl) (hb hby at_140) (fun _ _ => ⟨rfl, rfl, (by decide : 3 + 0 ≤ _), (by decide : 12 + 0 ≤ _)⟩)
          dsimp only [Pt.U, Pt.locs, Pt.cells, Pt.slots] at X238 l238 y238 z238 st238 hQ238
          rw [l238, y238, z238] at X238
          obtain ⟨rfl, N238q, K238q⟩ := hQ238
          have N241 := Fr.app N235 N238q
          have q242 : (if (0 : Int32) < lv then (0 : Int32) else (1 : Int32)) = (1 : Int32) := if_neg ((own_z lv hlv).mp hc82_210)
          have f243 := (Nat.le_trans K226 K233q.1)
          obtain ⟨fs, hr, hrun, hended, -, hW1, hW2, hW3⟩ := X238.leaveW S226 (by rw [K238q]; exact f243) (v := some (.int (1 : Int32))) (fun h => by rw [Bd.returns] at h; cases h)
          refine ⟨_, _, pre225 _ ?_, hrun, hended, _, _, rfl, ?_, hW1, hW2, hW3.mono (by decide) (by decide)⟩
          · show Steps p.tables e below (T212.setTop (mkF m 124 #[iv p0_0, iv p0_1, iv p0_2, iv p0_3, iv (0 : Int32), rv s_NO_PROP, rv s_GRANT, iv lv, iv (1 : Int32), .unset] [(.ref b212), (.ref b212)])) _
            refine st226 _ ?_
            show Steps p.tables e below (T226.setTop (mkF m 126 #[iv p0_0, iv p0_1, iv p0_2, iv p0_3, iv (0 : Int32), rv s_NO_PROP, rv s_GRANT, iv lv, iv (1 : Int32), .unset] [(.ref sa226), (.ref b212), (.ref b212)])) _
            refine XS.aconstNull X226.here hx rfl (hb hby at_126) ?_
            show Steps p.tables e below (T226.setTop (mkF m 127 #[iv p0_0, iv p0_1, iv p0_2, iv p0_3, iv (0 : Int32), rv s_NO_PROP, rv s_GRANT, iv lv, iv (1 : Int32), .unset] [.null, (.ref sa226), (.ref b212), (.ref b212)])) _
            refine XS.aload X226.here hx rfl (hb hby at_127) rfl rfl ?_
            show Steps p.tables e below (T226.setTop (mkF m 129 #[iv p0_0, iv p0_1, iv p0_2, iv p0_3, iv (0 : Int32), rv s_NO_PROP, rv s_GRANT, iv lv, iv (1 : Int32), .unset] [(.ref s_GRANT), .null, (.ref sa226), (.ref b212), (.ref b212)])) _
            refine XS.aload X226.here hx rfl (hb hby at_129) rfl rfl ?_
            show Steps p.tables e below (T226.setTop (mkF m 131 #[iv p0_0, iv p0_1, iv p0_2, iv p0_3, iv (0 : Int32), rv s_NO_PROP, rv s_GRANT, iv lv, iv (1 : Int32), .unset] [(.ref s_NO_PROP), (.ref s_GRANT), .null, (.ref sa226), (.ref b212), (.ref b212)])) _
            refine st233.trans ?_
            show Steps p.tables e below (T233.setTop (mkF m 134 #[iv p0_0, iv p0_1, iv p0_2, iv p0_3, iv (0 : Int32), rv s_NO_PROP, rv s_GRANT, iv lv, iv (1 : Int32), .unset] [(.ref b212)])) _
            refine XS.astore X233.here hx rfl (hb hby at_134) rfl rfl (l' := #[iv p0_0, iv p0_1, iv p0_2, iv p0_3, iv (0 : Int32), rv s_NO_PROP, rv s_GRANT, iv lv, iv (1 : Int32), rv b212]) rfl ?_
            show Steps p.tables e below (T233.setTop (mkF m 136 #[iv p0_0, iv p0_1, iv p0_2, iv p0_3, iv (0 : Int32), rv s_NO_PROP, rv s_GRANT, iv lv, iv (1 : Int32), rv b212] [])) _
            refine XS.aload X233.here hx rfl (hb hby at_136) rfl rfl ?_
            show Steps p.tables e below (T233.setTop (mkF m 138 #[iv p0_0, iv p0_1, iv p0_2, iv p0_3, iv (0 : Int32), rv s_NO_PROP, rv s_GRANT, iv lv, iv (1 : Int32), rv b212] [(.ref b212)])) _
            refine XS.iload X233.here hx rfl (hb hby at_138) rfl ?_
            show Steps p.tables e below (T233.setTop (mkF m 140 #[iv p0_0, iv p0_1, iv p0_2, iv p0_3, iv (0 : Int32), rv s_NO_PROP, rv s_GRANT, iv lv, iv (1 : Int32), rv b212] [(.int lv), (.ref b212)])) _
            refine st238.trans ?_
            rw [q242]
            show Steps p.tables e below (T238.setTop (mkF m 143 #[iv p0_0, iv p0_1, iv p0_2, iv p0_3, iv (0 : Int32), rv s_NO_PROP, rv s_GRANT, iv lv, iv (1 : Int32), rv b212] [(.int (1 : Int32))])) _
            show Steps p.tables e below (T238.setTop (mkF m 143 #[iv p0_0, iv p0_1, iv p0_2, iv p0_3, iv (0 : Int32), rv s_NO_PROP, rv s_GRANT, iv lv, iv (1 : Int32), rv b212] [(.int (1 : Int32))])) _
            refine XS.iload X238.here hx rfl (hb hby at_143) rfl ?_
            show Steps p.tables e below (T238.setTop (mkF m 145 #[iv p0_0, iv p0_1, iv p0_2, iv p0_3, iv (0 : Int32), rv s_NO_PROP, rv s_GRANT, iv lv, iv (1 : Int32), rv b212] [(.int (1 : Int32)), (.int (1 : Int32))])) _
            refine XS.icmpNo X238.here hx rfl (hb hby at_145) rfl (teq (by decide : (1 : Int32) = (1 : Int32))).2 ?_
            show Steps p.tables e below (T238.setTop (mkF m 148 #[iv p0_0, iv p0_1, iv p0_2, iv p0_3, iv (0 : Int32), rv s_NO_PROP, rv s_GRANT, iv lv, iv (1 : Int32), rv b212] [])) _
            refine XS.iconst X238.here hx rfl (hb hby at_148) ?_
            show Steps p.tables e below (T238.setTop (mkF m 149 #[iv p0_0, iv p0_1, iv p0_2, iv p0_3, iv (0 : Int32), rv s_NO_PROP, rv s_GRANT, iv lv, iv (1 : Int32), rv b212] [(.int (1 : Int32))])) _
            refine XS.goto X238.here hx rfl (pc0 := 149) (pc' := 153) rfl (hb hby at_149) (by decide) (by decide) ?_
            show Steps p.tables e below (T238.setTop (mkF m 153 #[iv p0_0, iv p0_1, iv p0_2, iv p0_3, iv (0 : Int32), rv s_NO_PROP, rv s_GRANT, iv lv, iv (1 : Int32), rv b212] [(.int (1 : Int32))])) _
            exact retN X238 hx (t := .boolean) Bd.returns (by simp) (hb hby at_153) hr
          · show Q_rm0 Z _ _ _ _ _ _ _ _ _ h0 n0 _ T238.heap _
            rw [K238q]
            exact ⟨rfl, N241, (K236)⟩
        · skip
          obtain ⟨T244, h244, X244, e244, E244, A244, D244, -, st244⟩ := newO X141 hx hZ hown wo7 wo8 wo9 e141 (g := (mkF m 120 #[iv p0_0, iv p0_1, iv p0_2, iv p0_3, iv (0 : Int32), rv s_NO_PROP, rv s_GRANT, iv lv, iv (0 : Int32), .unset] [])) rfl (hb hby at_120) (by decide) (by decide)
          obtain ⟨b244, gg244⟩ : ∃ z, z = h0.size := ⟨_, rfl⟩
          rw [← gg244] at A244 D244 st244
          have ne245 : s_NO_PROP ≠ b244 := Nat.ne_of_lt (Nat.lt_of_lt_of_le pf_E_s_NO_PROP.lt (Nat.le_of_eq gg244.symm))
          have ne246 : s_GRANT ≠ b244 := Nat.ne_of_lt (Nat.lt_of_lt_of_le pf_E_s_GRANT.lt (Nat.le_of_eq gg244.symm))
          have ne247 : s_FIRST_LEVEL ≠ b244 := Nat.ne_of_lt (Nat.lt_of_lt_of_le pf_E_s_FIRST_LEVEL.lt (Nat.le_of_eq gg244.symm))
          have ne248 : s_DENY ≠ b244 := Nat.ne_of_lt (Nat.lt_of_lt_of_le pf_E_s_DENY.lt (Nat.le_of_eq gg244.symm))
          have ne249 : s_CASCADE ≠ b244 := Nat.ne_of_lt (Nat.lt_of_lt_of_le pf_E_s_CASCADE.lt (Nat.le_of_eq gg244.symm))
          have g250 : n0 ≤ b244 := Nat.le_trans Z0 (Nat.le_of_eq gg244.symm)
          have bz251 : h0.size ≤ b244 := Nat.le_trans (Keep.refl h0 []).1 (Nat.le_of_eq gg244.symm)
          have K252 : Keep h0 h244 [] := (Keep.refl h0 []).ext E244
          have f253 : Fld Z h244 b244 "com/example/arbiter/arbiter/NodeRule" "path" "Ljava/lang/String;" .null := D244 (Or.inr wo25) (ty := (.object "java/lang/String")) (by decide)
          have f254 : Fld Z h244 b244 "com/example/arbiter/arbiter/NodeRule" "operation" "Lcom/example/arbiter/arbiter/DocumentOperation;" .null := D244 (Or.inr wo27) (ty := (.object "com/example/arbiter/arbiter/DocumentOperation")) (by decide)
          have f255 : Fld Z h244 b244 "com/example/arbiter/arbiter/NodeRule" "sign" "Lcom/example/arbiter/arbiter/NodeRule$Sign;" .null := D244 (Or.inr wo29) (ty := (.object "com/example/arbiter/arbiter/NodeRule$Sign")) (by decide)
          have f256 : Fld Z h244 b244 "com/example/arbiter/arbiter/NodeRule" "propagation" "Lcom/example/arbiter/arbiter/NodeRule$Propagation;" .null := D244 (Or.inr wo31) (ty := (.object "com/example/arbiter/arbiter/NodeRule$Propagation")) (by decide)
          have pre257 : ∀ t, Steps p.tables e below (T244.setTop (mkF m 124 #[iv p0_0, iv p0_1, iv p0_2, iv p0_3, iv (0 : Int32), rv s_NO_PROP, rv s_GRANT, iv lv, iv (0 : Int32), .unset] [(.ref b244), (.ref b244)])) t → Steps p.tables e below (s₁.setTop (entryFrame m #[(.int p0_0), (.int p0_1), (.int p0_2), (.int p0_3)] maxLocals)) t := by
            intro t_ k_
            refine pre211 _ ?_
            show Steps p.tables e below (T141.setTop (mkF m 82 #[iv p0_0, iv p0_1, iv p0_2, iv p0_3, iv (0 : Int32), rv s_NO_PROP, rv s_GRANT, iv lv, .unset, .unset] [(.int lv)])) _
            refine XS.ifYes X141.here hx rfl (pc0 := 82) (pc' := 89) rfl (hb hby at_82) rfl ((if0 _ _).trans (feq hc82_210).2) (by decide) (by decide) ?_
            show Steps p.tables e below (T141.setTop (mkF m 89 #[iv p0_0, iv p0_1, iv p0_2, iv p0_3, iv (0 : Int32), rv s_NO_PROP, rv s_GRANT, iv lv, .unset, .unset] [])) _
            refine XS.iconst X141.here hx rfl (hb hby at_89) ?_
            show Steps p.tables e below (T141.setTop (mkF m 90 #[iv p0_0, iv p0_1, iv p0_2, iv p0_3, iv (0 : Int32), rv s_NO_PROP, rv s_GRANT, iv lv, .unset, .unset] [(.int (0 : Int32))])) _
            refine XS.istore X141.here hx rfl (hb hby at_90) rfl (l' := #[iv p0_0, iv p0_1, iv p0_2, iv p0_3, iv (0 : Int32), rv s_NO_PROP, rv s_GRANT, iv lv, iv (0 : Int32), .unset]) rfl ?_
            show Steps p.tables e below (T141.setTop (mkF m 92 #[iv p0_0, iv p0_1, iv p0_2, iv p0_3, iv (0 : Int32), rv s_NO_PROP, rv s_GRANT, iv lv, iv (0 : Int32), .unset] [])) _
            refine XS.goto X141.here hx rfl (pc0 := 92) (pc' := 120) rfl (hb hby at_92) (by decide) (by decide) ?_
            show Steps p.tables e below (T141.setTop (mkF m 120 #[iv p0_0, iv p0_1, iv p0_2, iv p0_3, iv (0 : Int32), rv s_NO_PROP, rv s_GRANT, iv lv, iv (0 : Int32), .unset] [])) _
            refine st244 _ ?_
            show Steps p.tables e below (T244.setTop (mkF m 123 #[iv p0_0, iv p0_1, iv p0_2, iv p0_3, iv (0 : Int32), rv s_NO_PROP, rv s_GRANT, iv lv, iv (0 : Int32), .unset] [(.ref b244)])) _
            refine XS.dup X244.here hx rfl (hb hby at_123) rfl rfl ?_
            exact k_
          obtain ⟨sa258, T258, h258, k258, X258, e258, E258, S258, K258, hZ, hown, st258⟩ := ldcS (s := s) (vm0 := s.vm) X244 hx hZ hown wo10 (fun d hd => hw d ((by decide +kernel : ∀ d ∈ Bundle.stringAtoms, d ∈ tables_1) d hd)) e244 ((State.WarmedH.refl s).since 0) (Nat.zero_le _) (g := (mkF m 124 #[iv p0_0, iv p0_1, iv p0_2, iv p0_3, iv (0 : Int32), rv s_NO_PROP, rv s_GRANT, iv lv, iv (0 : Int32), .unset] [(.ref b244), (.ref b244)])) rfl (hb hby at_124) (n := 4) (by decide) (by decide) (by decide) (by decide)
          have K259 : Keep h0 h258 [] := (K252).ext E258
          have f260 := (A244.ext E258)
          have f261 := (f253.ext E258)
          have f262 := (f254.ext E258)
          have f263 := (f255.ext E258)
          have f264 := (f256.ext E258)
          have f266 := (Nat.le_trans (Nat.le_trans Z0 E244.1) E258.1)
          obtain ⟨_, _, ⟨T265, L265, k265, n265⟩, -, X265, ⟨Lc265, hQ265, l265, y265, z265⟩, st265⟩ := X258.specialBack hx (y := MN1) rfl hown (mvT hZ wo18) (mvT hZ wo19) (mvT hZ wo20) (by decide) (backOf (W := 1) (rm1 l Z a0 hw [] b244 sa258 s_GRANT s_NO_PROP h258 n0 f266 f260 g250 f261 f262 f263 f264) hZ wo20 wo9 (by decide) (by decide)) (g := (mkF m 131 #[iv p0_0, iv p0_1, iv p0_2, iv p0_3, iv (0 : Int32), rv s_NO_PROP, rv s_GRANT, iv lv, iv (0 : Int32), .unset] [(.ref s_NO_PROP), (.ref s_GRANT), .null, (.ref sa258), (.ref b244), (.ref b244)])) rfl (by rw [hml]; rfl) (Steps.refl _) (a := b244) (argsL := [(.ref sa258), .null, (.ref s_GRANT), (.ref s_NO_PROP)]) (rest := [(.ref b244)]) (lenOf pd_2 rfl) rfl (by show 2 * 0 + _ ≤ _; exact Nat.le_of_eq rfl) (hb hby at_131) (fun _ _ => ⟨rfl, e258, (by decide : 3 + 0 ≤ _), (by decide : 12 + 0 ≤ _)⟩)
          dsimp only [Pt.U, Pt.locs, Pt.cells, Pt.slots] at X265 l265 y265 z265 st265 hQ265
          rw [l265, y265, z265] at X265
          obtain ⟨rfl, N265q, K265q, hq265_0⟩ := hQ265
          have N267 := Fr.app N0 N265q
          have K268 : Keep h0 T265.heap [] := (K259).trans K265q (allS (P := fun x => x ∈ [] ∨ h0.size ≤ x) (Or.inr bz251) all0)
          have f269 := (((pf_F_s_NO_PROP_levels.ext E244).ext E258).keep K265q (ninS ne245 nin0))
          have f271 := (Nat.le_trans f266 K265q.1)
          have f272 := (f260.keep K265q)
          obtain ⟨cq270, kq270, q270a, q270b, q270c⟩ := isOf hZ rfl f272
          obtain ⟨_, _, ⟨T270, L270, k270, n270⟩, -, X270, ⟨Lc270, hQ270, l270, y270, z270⟩, st270⟩ := X265.virtualBack hx (y := MN3) (z := MN3) hown (mvT hZ wo32) (mvT hZ wo33) (notFace_of_selects (args := #[]) (mvT hZ wo35)) (mvT hZ wo35) (mvT hZ wo34) (by decide) (backOf (W := 0) (rm3 l Z a0 hw [] b244 lv s_NO_PROP (0 : Int32) (T265.heap) n0 f271 hq265_0 f269) hZ wo36 wo9 (by decide) (by decide)) q270a q270c (g := (mkF m 140 #[iv p0_0, iv p0_1, iv p0_2, iv p0_3, iv (0 : Int32), rv s_NO_PROP, rv s_GRANT, iv lv, iv (0 : Int32), rv b244] [(.int lv), (.ref b244)])) rfl (by rw [hml]; rfl) (Steps.refl _) (argsL := [(.int lv)]) (rest := []) (lenOf pd_1 rfl) rfl (by show 2 * 0 + _ ≤ _; exact Nat.le_of_eq rfl) (hb hby at_140) (fun _ _ => ⟨rfl, rfl, (by decide : 3 + 0 ≤ _), (by decide : 12 + 0 ≤ _)⟩)
          dsimp only [Pt.U, Pt.locs, Pt.cells, Pt.slots] at X270 l270 y270 z270 st270 hQ270
          rw [l270, y270, z270] at X270
          obtain ⟨rfl, N270q, K270q⟩ := hQ270
          have N273 := Fr.app N267 N270q
          have q274 : (if (0 : Int32) < lv then (0 : Int32) else (1 : Int32)) = (0 : Int32) := if_pos (Classical.not_not.mp (fun q => hc82_210 ((own_z lv hlv).mpr q)))
          have f275 := (Nat.le_trans K258 K265q.1)
          obtain ⟨fs, hr, hrun, hended, -, hW1, hW2, hW3⟩ := X270.leaveW S258 (by rw [K270q]; exact f275) (v := some (.int (1 : Int32))) (fun h => by rw [Bd.returns] at h; cases h)
          refine ⟨_, _, pre257 _ ?_, hrun, hended, _, _, rfl, ?_, hW1, hW2, hW3.mono (by decide) (by decide)⟩
          · show Steps p.tables e below (T244.setTop (mkF m 124 #[iv p0_0, iv p0_1, iv p0_2, iv p0_3, iv (0 : Int32), rv s_NO_PROP, rv s_GRANT, iv lv, iv (0 : Int32), .unset] [(.ref b244), (.ref b244)])) _
            refine st258 _ ?_
            show Steps p.tables e below (T258.setTop (mkF m 126 #[iv p0_0, iv p0_1, iv p0_2, iv p0_3, iv (0 : Int32), rv s_NO_PROP, rv s_GRANT, iv lv, iv (0 : Int32), .unset] [(.ref sa258), (.ref b244), (.ref b244)])) _
            refine XS.aconstNull X258.here hx rfl (hb hby at_126) ?_
            show Steps p.tables e below (T258.setTop (mkF m 127 #[iv p0_0, iv p0_1, iv p0_2, iv p0_3, iv (0 : Int32), rv s_NO_PROP, rv s_GRANT, iv lv, iv (0 : Int32), .unset] [.null, (.ref sa258), (.ref b244), (.ref b244)])) _
            refine XS.aload X258.here hx rfl (hb hby at_127) rfl rfl ?_
            show Steps p.tables e below (T258.setTop (mkF m 129 #[iv p0_0, iv p0_1, iv p0_2, iv p0_3, iv (0 : Int32), rv s_NO_PROP, rv s_GRANT, iv lv, iv (0 : Int32), .unset] [(.ref s_GRANT), .null, (.ref sa258), (.ref b244), (.ref b244)])) _
            refine XS.aload X258.here hx rfl (hb hby at_129) rfl rfl ?_
            show Steps p.tables e below (T258.setTop (mkF m 131 #[iv p0_0, iv p0_1, iv p0_2, iv p0_3, iv (0 : Int32), rv s_NO_PROP, rv s_GRANT, iv lv, iv (0 : Int32), .unset] [(.ref s_NO_PROP), (.ref s_GRANT), .null, (.ref sa258), (.ref b244), (.ref b244)])) _
            refine st265.trans ?_
            show Steps p.tables e below (T265.setTop (mkF m 134 #[iv p0_0, iv p0_1, iv p0_2, iv p0_3, iv (0 : Int32), rv s_NO_PROP, rv s_GRANT, iv lv, iv (0 : Int32), .unset] [(.ref b244)])) _
            refine XS.astore X265.here hx rfl (hb hby at_134) rfl rfl (l' := #[iv p0_0, iv p0_1, iv p0_2, iv p0_3, iv (0 : Int32), rv s_NO_PROP, rv s_GRANT, iv lv, iv (0 : Int32), rv b244]) rfl ?_
            show Steps p.tables e below (T265.setTop (mkF m 136 #[iv p0_0, iv p0_1, iv p0_2, iv p0_3, iv (0 : Int32), rv s_NO_PROP, rv s_GRANT, iv lv, iv (0 : Int32), rv b244] [])) _
            refine XS.aload X265.here hx rfl (hb hby at_136) rfl rfl ?_
            show Steps p.tables e below (T265.setTop (mkF m 138 #[iv p0_0, iv p0_1, iv p0_2, iv p0_3, iv (0 : Int32), rv s_NO_PROP, rv s_GRANT, iv lv, iv (0 : Int32), rv b244] [(.ref b244)])) _
            refine XS.iload X265.here hx rfl (hb hby at_138) rfl ?_
            show Steps p.tables e below (T265.setTop (mkF m 140 #[iv p0_0, iv p0_1, iv p0_2, iv p0_3, iv (0 : Int32), rv s_NO_PROP, rv s_GRANT, iv lv, iv (0 : Int32), rv b244] [(.int lv), (.ref b244)])) _
            refine st270.trans ?_
            rw [q274]
            show Steps p.tables e below (T270.setTop (mkF m 143 #[iv p0_0, iv p0_1, iv p0_2, iv p0_3, iv (0 : Int32), rv s_NO_PROP, rv s_GRANT, iv lv, iv (0 : Int32), rv b244] [(.int (0 : Int32))])) _
            show Steps p.tables e below (T270.setTop (mkF m 143 #[iv p0_0, iv p0_1, iv p0_2, iv p0_3, iv (0 : Int32), rv s_NO_PROP, rv s_GRANT, iv lv, iv (0 : Int32), rv b244] [(.int (0 : Int32))])) _
            refine XS.iload X270.here hx rfl (hb hby at_143) rfl ?_
            show Steps p.tables e below (T270.setTop (mkF m 145 #[iv p0_0, iv p0_1, iv p0_2, iv p0_3, iv (0 : Int32), rv s_NO_PROP, rv s_GRANT, iv lv, iv (0 : Int32), rv b244] [(.int (0 : Int32)), (.int (0 : Int32))])) _
            refine XS.icmpNo X270.here hx rfl (hb hby at_145) rfl (teq (by decide : (0 : Int32) = (0 : Int32))).2 ?_
            show Steps p.tables e below (T270.setTop (mkF m 148 #[iv p0_0, iv p0_1, iv p0_2, iv p0_3, iv (0 : Int32), rv s_NO_PROP, rv s_GRANT, iv lv, iv (0 : Int32), rv b244] [])) _
            refine XS.iconst X270.here hx rfl (hb hby at_148) ?_
            show Steps p.tables e below (T270.setTop (mkF m 149 #[iv p0_0, iv p0_1, iv p0_2, iv p0_3, iv (0 : Int32), rv s_NO_PROP, rv s_GRANT, iv lv, iv (0 : Int32), rv b244] [(.int (1 : Int32))])) _
            refine XS.goto X270.here hx rfl (pc0 := 149) (pc' := 153) rfl (hb hby at_149) (by decide) (by decide) ?_
            show Steps p.tables e below (T270.setTop (mkF m 153 #[iv p0_0, iv p0_1, iv p0_2, iv p0_3, iv (0 : Int32), rv s_NO_PROP, rv s_GRANT, iv lv, iv (0 : Int32), rv b244] [(.int (1 : Int32))])) _
            exact retN X270 hx (t := .boolean) Bd.returns (by simp) (hb hby at_153) hr
          · show Q_rm0 Z _ _ _ _ _ _ _ _ _ h0 n0 _ T270.heap _
            rw [K270q]
            exact ⟨rfl, N273, (K268)⟩
  · skip
    obtain ⟨T276, X276, e276, st276⟩ := getS2 X0 hx hZ hown (host := "") (Or.inl wo39) Via.refl e0 (pf_S_com_example_arbiter_arbiter_NodeRule_Propagation_FIRST_LEVEL.ext pf_O.2) (g := (mkF m 27 #[iv p0_0, iv p0_1, iv p0_2, iv p0_3, iv (1 : Int32), .unset, .unset, .unset, .unset, .unset] [])) rfl (hb hby at_27)
    have pre278 : ∀ t, Steps p.tables e below (T276.setTop (mkF m 43 #[iv p0_0, iv p0_1, iv p0_2, iv p0_3, iv (1 : Int32), rv s_FIRST_LEVEL, .unset, .unset, .unset, .unset] [(.int (p0_1 &&& (1 : Int32)))])) t → Steps p.tables e below (s₁.setTop (entryFrame m #[(.int p0_0), (.int p0_1), (.int p0_2), (.int p0_3)] maxLocals)) t := by
      intro t_ k_
      refine pre1 _ ?_
      show Steps p.tables e below (s₁.setTop (mkF m 8 #[iv p0_0, iv p0_1, iv p0_2, iv p0_3, iv (1 : Int32), .unset, .unset, .unset, .unset, .unset] [])) _
      refine XS.iload X0.here hx rfl (hb hby at_8) rfl ?_
      show Steps p.tables e below (s₁.setTop (mkF m 10 #[iv p0_0, iv p0_1, iv p0_2, iv p0_3, iv (1 : Int32), .unset, .unset, .unset, .unset, .unset] [(.int (1 : Int32))])) _
      refine XS.ifYes X0.here hx rfl (pc0 := 10) (pc' := 21) rfl (hb hby at_10) rfl ((if0 _ _).trans (feq (by decide : ¬ ((1 : Int32) = (0 : Int32)))).2) (by decide) (by decide) ?_
      show Steps p.tables e below (s₁.setTop (mkF m 21 #[iv p0_0, iv p0_1, iv p0_2, iv p0_3, iv (1 : Int32), .unset, .unset, .unset, .unset, .unset] [])) _
      refine XS.iload X0.here hx rfl (hb hby at_21) rfl ?_
      show Steps p.tables e below (s₁.setTop (mkF m 23 #[iv p0_0, iv p0_1, iv p0_2, iv p0_3, iv (1 : Int32), .unset, .unset, .unset, .unset, .unset] [(.int (1 : Int32))])) _
      refine XS.iconst X0.here hx rfl (hb hby at_23) ?_
      show Steps p.tables e below (s₁.setTop (mkF m 24 #[iv p0_0, iv p0_1, iv p0_2, iv p0_3, iv (1 : Int32), .unset, .unset, .unset, .unset, .unset] [(.int (1 : Int32)), (.int (1 : Int32))])) _
      refine XS.icmpNo X0.here hx rfl (hb hby at_24) rfl (teq (by decide : (1 : Int32) = (1 : Int32))).2 ?_
      show Steps p.tables e below (s₁.setTop (mkF m 27 #[iv p0_0, iv p0_1, iv p0_2, iv p0_3, iv (1 : Int32), .unset, .unset, .unset, .unset, .unset] [])) _
      refine st276 _ ?_
      show Steps p.tables e below (T276.setTop (mkF m 30 #[iv p0_0, iv p0_1, iv p0_2, iv p0_3, iv (1 : Int32), .unset, .unset, .unset, .unset, .unset] [(.ref s_FIRST_LEVEL)])) _
      refine XS.astore X276.here hx rfl (hb hby at_30) rfl rfl (l' := #[iv p0_0, iv p0_1, iv p0_2, iv p0_3, iv (1 : Int32), rv s_FIRST_LEVEL, .unset, .unset, .unset, .unset]) rfl ?_
      show Steps p.tables e below (T276.setTop (mkF m 32 #[iv p0_0, iv p0_1, iv p0_2, iv p0_3, iv (1 : Int32), rv s_FIRST_LEVEL, .unset, .unset, .unset, .unset] [])) _
      refine XS.goto X276.here hx rfl (pc0 := 32) (pc' := 40) rfl (hb hby at_32) (by decide) (by decide) ?_
      show Steps p.tables e below (T276.setTop (mkF m 40 #[iv p0_0, iv p0_1, iv p0_2, iv p0_3, iv (1 : Int32), rv s_FIRST_LEVEL, .unset, .unset, .unset, .unset] [])) _
      refine XS.iloadN X276.here hx rfl (hb hby at_40) rfl ?_
      show Steps p.tables e below (T276.setTop (mkF m 41 #[iv p0_0, iv p0_1, iv p0_2, iv p0_3, iv (1 : Int32), rv s_FIRST_LEVEL, .unset, .unset, .unset, .unset] [(.int p0_1)])) _
      refine XS.iconst X276.here hx rfl (hb hby at_41) ?_
      show Steps p.tables e below (T276.setTop (mkF m 42 #[iv p0_0, iv p0_1, iv p0_2, iv p0_3, iv (1 : Int32), rv s_FIRST_LEVEL, .unset, .unset, .unset, .unset] [(.int (1 : Int32)), (.int p0_1)])) _
      refine XS.iand X276.here hx rfl (hb hby at_42) rfl ?_
      exact k_
    by_cases hc43_277 : (p0_1 &&& (1 : Int32)) = (0 : Int32)
    · skip
      obtain ⟨T279, X279, e279, st279⟩ := getS2 X276 hx hZ hown (host := "") (Or.inl wo41) Via.refl e276 (pf_S_com_example_arbiter_arbiter_NodeRule_Sign_DENY.ext pf_O.2) (g := (mkF m 52 #[iv p0_0, iv p0_1, iv p0_2, iv p0_3, iv (1 : Int32), rv s_FIRST_LEVEL, .unset, .unset, .unset, .unset] [])) rfl (hb hby at_52)
      have pre281 : ∀ t, Steps p.tables e below (T279.setTop (mkF m 60 #[iv p0_0, iv p0_1, iv p0_2, iv p0_3, iv (1 : Int32), rv s_FIRST_LEVEL, rv s_DENY, .unset, .unset, .unset] [(.int (p0_3 &&& (1 : Int32)))])) t → Steps p.tables e below (s₁.setTop (entryFrame m #[(.int p0_0), (.int p0_1), (.int p0_2), (.int p0_3)] maxLocals)) t := by
        intro t_ k_
        refine pre278 _ ?_
        show Steps p.tables e below (T276.setTop (mkF m 43 #[iv p0_0, iv p0_1, iv p0_2, iv p0_3, iv (1 : Int32), rv s_FIRST_LEVEL, .unset, .unset, .unset, .unset] [(.int (p0_1 &&& (1 : Int32)))])) _
        refine XS.ifYes X276.here hx rfl (pc0 := 43) (pc' := 52) rfl (hb hby at_43) rfl ((if0 _ _).trans (teq hc43_277).1) (by decide) (by decide) ?_
        show Steps p.tables e below (T276.setTop (mkF m 52 #[iv p0_0, iv p0_1, iv p0_2, iv p0_3, iv (1 : Int32), rv s_FIRST_LEVEL, .unset, .unset, .unset, .unset] [])) _
        refine st279 _ ?_
        show Steps p.tables e below (T279.setTop (mkF m 55 #[iv p0_0, iv p0_1, iv p0_2, iv p0_3, iv (1 : Int32), rv s_FIRST_LEVEL, .unset, .unset, .unset, .unset] [(.ref s_DENY)])) _
        refine XS.astore X279.here hx rfl (hb hby at_55) rfl rfl (l' := #[iv p0_0, iv p0_1, iv p0_2, iv p0_3, iv (1 : Int32), rv s_FIRST_LEVEL, rv s_DENY, .unset, .unset, .unset]) rfl ?_
        show Steps p.tables e below (T279.setTop (mkF m 57 #[iv p0_0, iv p0_1, iv p0_2, iv p0_3, iv (1 : Int32), rv s_FIRST_LEVEL, rv s_DENY, .unset, .unset, .unset] [])) _
        refine XS.iloadN X279.here hx rfl (hb hby at_57) rfl ?_
        show Steps p.tables e below (T279.setTop (mkF m 58 #[iv p0_0, iv p0_1, iv p0_2, iv p0_3, iv (1 : Int32), rv s_FIRST_LEVEL, rv s_DENY, .unset, .unset, .unset] [(.int p0_3)])) _
        refine XS.iconst X279.here hx rfl (hb hby at_58) ?_
        show Steps p.tables e below (T279.setTop (mkF m 59 #[iv p0_0, iv p0_1, iv p0_2, iv p0_3, iv (1 : Int32), rv s_FIRST_LEVEL, rv s_DENY, .unset, .unset, .unset] [(.int (1 : Int32)), (.int p0_3)])) _
        refine XS.iand X279.here hx rfl (hb hby at_59) rfl ?_
        exact k_
      by_cases hc60_280 : (p0_3 &&& (1 : Int32)) = (0 : Int32)
      · skip
        obtain ⟨lv, h_lv⟩ : ∃ z : Int32, z = (p0_2 &&& (2147483647 : Int32)) := ⟨_, rfl⟩
        have hlv : 0 ≤ lv.toInt := by rw [h_lv]; first | exact own_3 _ | exact own_m _
        have pre283 : ∀ t, Steps p.tables e below (T279.setTop (mkF m 104 #[iv p0_0, iv p0_1, iv p0_2, iv p0_3, iv (1 : Int32), rv s_FIRST_LEVEL, rv s_DENY, iv lv, .unset, .unset] [(.int (1 : Int32)), (.int lv)])) t → Steps p.tables e below (s₁.setTop (entryFrame m #[(.int p0_0), (.int p0_1), (.int p0_2), (.int p0_3)] maxLocals)) t := by
          intro t_ k_
          refine pre281 _ ?_
          show Steps p.tables e below (T279.setTop (mkF m 60 #[iv p0_0, iv p0_1, iv p0_2, iv p0_3, iv (1 : Int32), rv s_FIRST_LEVEL, rv s_DENY, .unset, .unset, .unset] [(.int (p0_3 &&& (1 : Int32)))])) _
          refine XS.ifYes X279.here hx rfl (pc0 := 60) (pc' := 69) rfl (hb hby at_60) rfl ((if0 _ _).trans (teq hc60_280).1) (by decide) (by decide) ?_
          show Steps p.tables e below (T279.setTop (mkF m 69 #[iv p0_0, iv p0_1, iv p0_2, iv p0_3, iv (1 : Int32), rv s_FIRST_LEVEL, rv s_DENY, .unset, .unset, .unset] [])) _
          refine XS.iloadN X279.here hx rfl (hb hby at_69) rfl ?_
          show Steps p.tables e below (T279.setTop (mkF m 70 #[iv p0_0, iv p0_1, iv p0_2, iv p0_3, iv (1 : Int32), rv s_FIRST_LEVEL, rv s_DENY, .unset, .unset, .unset] [(.int p0_2)])) _
          refine X279.ldcInt hx hown (mvT hZ wo0) (g := (mkF m 70 #[iv p0_0, iv p0_1, iv p0_2, iv p0_3, iv (1 : Int32), rv s_FIRST_LEVEL, rv s_DENY, .unset, .unset, .unset] [(.int p0_2)])) rfl (hb hby at_70) _ ?_
          show Steps p.tables e below (T279.setTop (mkF m 72 #[iv p0_0, iv p0_1, iv p0_2, iv p0_3, iv (1 : Int32), rv s_FIRST_LEVEL, rv s_DENY, .unset, .unset, .unset] [(.int (2147483647 : Int32)), (.int p0_2)])) _
          refine XS.iand X279.here hx rfl (hb hby at_72) rfl ?_
          show Steps p.tables e below (T279.setTop (mkF m 73 #[iv p0_0, iv p0_1, iv p0_2, iv p0_3, iv (1 : Int32), rv s_FIRST_LEVEL, rv s_DENY, .unset, .unset, .unset] [(.int (p0_2 &&& (2147483647 : Int32)))])) _
          refine XS.istore X279.here hx rfl (hb hby at_73) rfl (l' := #[iv p0_0, iv p0_1, iv p0_2, iv p0_3, iv (1 : Int32), rv s_FIRST_LEVEL, rv s_DENY, iv (p0_2 &&& (2147483647 : Int32)), .unset, .unset]) rfl ?_
          rw [← h_lv]
          show Steps p.tables e below (T279.setTop (mkF m 75 #[iv p0_0, iv p0_1, iv p0_2, iv p0_3, iv (1 : Int32), rv s_FIRST_LEVEL, rv s_DENY, iv lv, .unset, .unset] [])) _
          show Steps p.tables e below (T279.setTop (mkF m 75 #[iv p0_0, iv p0_1, iv p0_2, iv p0_3, iv (1 : Int32), rv s_FIRST_LEVEL, rv s_DENY, iv lv, .unset, .unset] [])) _
          refine XS.iload X279.here hx rfl (hb hby at_75) rfl ?_
          show Steps p.tables e below (T279.setTop (mkF m 77 #[iv p0_0, iv p0_1, iv p0_2, iv p0_3, iv (1 : Int32), rv s_FIRST_LEVEL, rv s_DENY, iv lv, .unset, .unset] [(.int (1 : Int32))])) _
          refine XS.ifYes X279.here hx rfl (pc0 := 77) (pc' := 95) rfl (hb hby at_77) rfl ((if0 _ _).trans (feq (by decide : ¬ ((1 : Int32) = (0 : Int32)))).2) (by decide) (by decide) ?_
          show Steps p.tables e below (T279.setTop (mkF m 95 #[iv p0_0, iv p0_1, iv p0_2, iv p0_3, iv (1 : Int32), rv s_FIRST_LEVEL, rv s_DENY, iv lv, .unset, .unset] [])) _
          refine XS.iload X279.here hx rfl (hb hby at_95) rfl ?_
          show Steps p.tables e below (T279.setTop (mkF m 97 #[iv p0_0, iv p0_1, iv p0_2, iv p0_3, iv (1 : Int32), rv s_FIRST_LEVEL, rv s_DENY, iv lv, .unset, .unset] [(.int (1 : Int32))])) _
          refine XS.iconst X279.here hx rfl (hb hby at_97) ?_
          show Steps p.tables e below (T279.setTop (mkF m 98 #[iv p0_0, iv p0_1, iv p0_2, iv p0_3, iv (1 : Int32), rv s_FIRST_LEVEL, rv s_DENY, iv lv, .unset, .unset] [(.int (1 : Int32)), (.int (1 : Int32))])) _
          refine XS.icmpNo X279.here hx rfl (hb hby at_98) rfl (teq (by decide : (1 : Int32) = (1 : Int32))).2 ?_
          show Steps p.tables e below (T279.setTop (mkF m 101 #[iv p0_0, iv p0_1, iv p0_2, iv p0_3, iv (1 : Int32), rv s_FIRST_LEVEL, rv s_DENY, iv lv, .unset, .unset] [])) _
          refine XS.iload X279.here hx rfl (hb hby at_101) rfl ?_
          show Steps p.tables e below (T279.setTop (mkF m 103 #[iv p0_0, iv p0_1, iv p0_2, iv p0_3, iv (1 : Int32), rv s_FIRST_LEVEL, rv s_DENY, iv lv, .unset, .unset] [(.int lv)])) _
          refine XS.iconst X279.here hx rfl (hb hby at_103) ?_
          exact k_
        by_cases hc104_282 : (1 : Int32) < lv
        · skip
          obtain ⟨T284, h284, X284, e284, E284, A284, D284, -, st284⟩ := newO X279 hx hZ hown wo7 wo8 wo9 e279 (g := (mkF m 120 #[iv p0_0, iv p0_1, iv p0_2, iv p0_3, iv (1 : Int32), rv s_FIRST_LEVEL, rv s_DENY, iv lv, iv (0 : Int32), .unset] [])) rfl (hb hby at_120) (by decide) (by decide)
          obtain ⟨b284, gg284⟩ : ∃ z, z = h0.size := ⟨_, rfl⟩
          rw [← gg284] at A284 D284 st284
          have ne285 : s_NO_PROP ≠ b284 := Nat.ne_of_lt (Nat.lt_of_lt_of_le pf_E_s_NO_PROP.lt (Nat.le_of_eq gg284.symm))
          have ne286 : s_GRANT ≠ b284 := Nat.ne_of_lt (Nat.lt_of_lt_of_le pf_E_s_GRANT.lt (Nat.le_of_eq gg284.symm))
          have ne287 : s_FIRST_LEVEL ≠ b284 := Nat.ne_of_lt (Nat.lt_of_lt_of_le pf_E_s_FIRST_LEVEL.lt (Nat.le_of_eq gg284.symm))
          have ne288 : s_DENY ≠ b284 := Nat.ne_of_lt (Nat.lt_of_lt_of_le pf_E_s_DENY.lt (Nat.le_of_eq gg284.symm))
          have ne289 : s_CASCADE ≠ b284 := Nat.ne_of_lt (Nat.lt_of_lt_of_le pf_E_s_CASCADE.lt (Nat.le_of_eq gg284.symm))
          have g290 : n0 ≤ b284 := Nat.le_trans Z0 (Nat.le_of_eq gg284.symm)
          have bz291 : h0.size ≤ b284 := Nat.le_trans (Keep.refl h0 []).1 (Nat.le_of_eq gg284.symm)
          have K292 : Keep h0 h284 [] := (Keep.refl h0 []).ext E284
          have f293 : Fld Z h284 b284 "com/example/arbiter/arbiter/NodeRule" "path" "Ljava/lang/String;" .null := D284 (Or.inr wo25) (ty := (.object "java/lang/String")) (by decide)
          have f294 : Fld Z h284 b284 "com/example/arbiter/arbiter/NodeRule" "operation" "Lcom/example/arbiter/arbiter/DocumentOperation;" .null := D284 (Or.inr wo27) (ty := (.object "com/example/arbiter/arbiter/DocumentOperation")) (by decide)
          have f295 : Fld Z h284 b284 "com/example/arbiter/arbiter/NodeRule" "sign" "Lcom/example/arbiter/arbiter/NodeRule$Sign;" .null := D284 (Or.inr wo29) (ty := (.object "com/example/arbiter/arbiter/NodeRule$Sign")) (by decide)
          have f296 : Fld Z h284 b284 "com/example/arbiter/arbiter/NodeRule" "propagation" "Lcom/example/arbiter/arbiter/NodeRule$Propagation;" .null := D284 (Or.inr wo31) (ty := (.object "com/example/arbiter/arbiter/NodeRule$Propagation")) (by decide)
          have pre297 : ∀ t, Steps p.tables e below (T284.setTop (mkF m 124 #[iv p0_0, iv p0_1, iv p0_2, iv p0_3, iv (1 : Int32), rv s_FIRST_LEVEL, rv s_DENY, iv lv, iv (0 : Int32), .unset] [(.ref b284), (.ref b284)])) t → Steps p.tables e below (s₁.setTop (entryFrame m #[(.int p0_0), (.int p0_1), (.int p0_2), (.int p0_3)] maxLocals)) t := by
            intro t_ k_
            refine pre283 _ ?_
            show Steps p.tables e below (T279.setTop (mkF m 104 #[iv p0_0, iv p0_1, iv p0_2, iv p0_3, iv (1 : Int32), rv s_FIRST_LEVEL, rv s_DENY, iv lv, .unset, .unset] [(.int (1 : Int32)), (.int lv)])) _
            refine XS.icmpYes X279.here hx rfl (pc0 := 104) (pc' := 111) rfl (hb hby at_104) rfl (tlt hc104_282).2.2.1 (by decide) (by decide) ?_
            show Steps p.tables e below (T279.setTop (mkF m 111 #[iv p0_0, iv p0_1, iv p0_2, iv p0_3, iv (1 : Int32), rv s_FIRST_LEVEL, rv s_DENY, iv lv, .unset, .unset] [])) _
            refine XS.iconst X279.here hx rfl (hb hby at_111) ?_
            show Steps p.tables e below (T279.setTop (mkF m 112 #[iv p0_0, iv p0_1, iv p0_2, iv p0_3, iv (1 : Int32), rv s_FIRST_LEVEL, rv s_DENY, iv lv, .unset, .unset] [(.int (0 : Int32))])) _
            refine XS.istore X279.here hx rfl (hb hby at_112) rfl (l' := #[iv p0_0, iv p0_1, iv p0_2, iv p0_3, iv (1 : Int32), rv s_FIRST_LEVEL, rv s_DENY, iv lv, iv (0 : Int32), .unset]) rfl ?_
            show Steps p.tables e below (T279.setTop (mkF m 114 #[iv p0_0, iv p0_1, iv p0_2, iv p0_3, iv (1 : Int32), rv s_FIRST_LEVEL, rv s_DENY, iv lv, iv (0 : Int32), .unset] [])) _
            refine XS.goto X279.here hx rfl (pc0 := 114) (pc' := 120) rfl (hb hby at_114) (by decide) (by decide) ?_
            show Steps p.tables e below (T279.setTop (mkF m 120 #[iv p0_0, iv p0_1, iv p0_2, iv p0_3, iv (1 : Int32), rv s_FIRST_LEVEL, rv s_DENY, iv lv, iv (0 : Int32), .unset] [])) _
            refine st284 _ ?_
            show Steps p.tables e below (T284.setTop (mkF m 123 #[iv p0_0, iv p0_1, iv p0_2, iv p0_3, iv (1 : Int32), rv s_FIRST_LEVEL, rv s_DENY, iv lv, iv (0 : Int32), .unset] [(.ref b284)])) _
            refine XS.dup X284.here hx rfl (hb hby at_123) rfl rfl ?_
            exact k_
          obtain ⟨sa298, T298, h298, k298, X298, e298, E298, S298, K298, hZ, hown, st298⟩ := ldcS (s := s) (vm0 := s.vm) X284 hx hZ hown wo10 (fun d hd => hw d ((by decide +kernel : ∀ d ∈ Bundle.stringAtoms, d ∈ tables_1) d hd)) e284 ((State.WarmedH.refl s).since 0) (Nat.zero_le _) (g := (mkF m 124 #[iv p0_0, iv p0_1, iv p0_2, iv p0_3, iv (1 : Int32), rv s_FIRST_LEVEL, rv s_DENY, iv lv, iv (0 : Int32), .unset] [(.ref b284), (.ref b284)])) rfl (hb hby at_124) (n := 4) (by decide) (by decide) (by decide) (by decide)
          have K299 : Keep h0 h298 [] := (K292).ext E298
          have f300 := (A284.ext E298)
          have f301 := (f293.ext E298)
          have f302 := (f294.ext E298)
          have f303 := (f295.ext E298)
          have f304 := (f296.ext E298)
          have f306 := (Nat.le_trans (Nat.le_trans Z0 E284.1) E298.1)
          obtain ⟨_, _, ⟨T305, L305, k305, n305⟩, -, X305, ⟨Lc305, hQ305, l305, y305, z305⟩, st305⟩ := X298.specialBack hx (y := MN1) rfl hown (mvT hZ wo18) (mvT hZ wo19) (mvT hZ wo20) (by decide) (backOf (W := 1) (rm1 l Z a0 hw [] b284 sa298 s_DENY s_FIRST_LEVEL h298 n0 f306 f300 g290 f301 f302 f303 f304) hZ wo20 wo9 (by decide) (by decide)) (g := (mkF m 131 #[iv p0_0, iv p0_1, iv p0_2, iv p0_3, iv (1 : Int32), rv s_FIRST_LEVEL, rv s_DENY, iv lv, iv (0 : Int32), .unset] [(.ref s_FIRST_LEVEL), (.ref s_DENY), .null, (.ref sa298), (.ref b284), (.ref b284)])) rfl (by rw [hml]; rfl) (Steps.refl _) (a := b284) (argsL := [(.ref sa298), .null, (.ref s_DENY), (.ref s_FIRST_LEVEL)]) (rest := [(.ref b284)]) (lenOf pd_2 rfl) rfl (by show 2 * 0 + _ ≤ _; exact Nat.le_of_eq rfl) (hb hby at_131) (fun _ _ => ⟨rfl, e298, (by decide : 3 + 0 ≤ _), (by decide : 12 + 0 ≤ _)⟩)
          dsimp only [Pt.U, Pt.locs, Pt.cells, Pt.slots] at X305 l305 y305 z305 st305 hQ305
          rw [l305, y305, z305] at X305
          obtain ⟨rfl, N305q, K305q, hq305_0⟩ := hQ305
          have N307 := Fr.app N0 N305q
          have K308 : Keep h0 T305.heap [] := (K299).trans K305q (allS (P := fun x => x ∈ [] ∨ h0.size ≤ x) (Or.inr bz291) all0)
          have f309 := (((pf_F_s_FIRST_LEVEL_levels.ext E284).ext E298).keep K305q (ninS ne287 nin0))
          have f311 := (Nat.le_trans f306 K305q.1)
          have f312 := (f300.keep K305q)
          obtain ⟨cq310, kq310, q310a, q310b, q310c⟩ := isOf hZ rfl f312
          obtain ⟨_, _, ⟨T310, L310, k310, n310⟩, -, X310, ⟨Lc310, hQ310, l310, y310, z310⟩, st310⟩ := X305.virtualBack hx (y := MN3) (z := MN3) hown (mvT hZ wo32) (mvT hZ wo33) (notFace_of_selects (args := #[]) (mvT hZ wo35)) (mvT hZ wo35) (mvT hZ wo34) (by decide) (backOf (W := 0) (rm3 l Z a0 hw [] b284 lv s_FIRST_LEVEL (1 : Int32) (T305.heap) n0 f311 hq305_0 f309) hZ wo36 wo9 (by decide) (by decide)) q310a q310c (g := (mkF m 140 #[iv p0_0, iv p0_1, iv p0_2, iv p0_3, iv (1 : Int32), rv s_FIRST_LEVEL, rv s_DENY, iv lv, iv (0 : Int32), rv b284] [(.int lv), (.ref b284)])) rfl (by rw [hml]; rfl) (Steps.refl _) (argsL := [(.int lv)]) (rest := []) (lenOf pd_1 rfl) rfl (by show 2 * 0 + _ ≤ _; exact Nat.le_of_eq rfl) (hb hby at_140) (fun _ _ => ⟨rfl, rfl, (by decide : 3 + 0 ≤ _), (by decide : 12 + 0 ≤ _)⟩)
          dsimp only [Pt.U, Pt.locs, Pt.cells, Pt.slots] at X310 l310 y310 z310 st310 hQ310
          rw [l310, y310, z310] at X310
          obtain ⟨rfl, N310q, K310q⟩ := hQ310
          have N313 := Fr.app N307 N310q
          have q314 : (if (1 : Int32) < lv then (0 : Int32) else (1 : Int32)) = (0 : Int32) := if_pos hc104_282
          have f315 := (Nat.le_trans K298 K305q.1)
          obtain ⟨fs, hr, hrun, hended, -, hW1, hW2, hW3⟩ := X310.leaveW S298 (by rw [K310q]; exact f315) (v := some (.int (1 : Int32))) (fun h => by rw [Bd.returns] at h; cases h)
          refine ⟨_, _, pre297 _ ?_, hrun, hended, _, _, rfl, ?_, hW1, hW2, hW3.mono (by decide) (by decide)⟩
          · show Steps p.tables e below (T284.setTop (mkF m 124 #[iv p0_0, iv p0_1, iv p0_2, iv p0_3, iv (1 : Int32), rv s_FIRST_LEVEL, rv s_DENY, iv lv, iv (0 : Int32), .unset] [(.ref b284), (.ref b284)])) _
            refine st298 _ ?_
            show Steps p.tables e below (T298.setTop (mkF m 126 #[iv p0_0, iv p0_1, iv p0_2, iv p0_3, iv (1 : Int32), rv s_FIRST_LEVEL, rv s_DENY, iv lv, iv (0 : Int32), .unset] [(.ref sa298), (.ref b284), (.ref b284)])) _
            refine XS.aconstNull X298.here hx rfl (hb hby at_126) ?_
            show Steps p.tables e below (T298.setTop (mkF m 127 #[iv p0_0, iv p0_1, iv p0_2, iv p0_3, iv (1 : Int32), rv s_FIRST_LEVEL, rv s_DENY, iv lv, iv (0 : Int32), .unset] [.null, (.ref sa298), (.ref b284), (.ref b284)])) _
            refine XS.aload X298.here hx rfl (hb hby at_127) rfl rfl ?_
            show Steps p.tables e below (T298.setTop (mkF m 129 #[iv p0_0, iv p0_1, iv p0_2, iv p0_3, iv (1 : Int32), rv s_FIRST_LEVEL, rv s_DENY, iv lv, iv (0 : Int32), .unset] [(.ref s_DENY), .null, (.ref sa298), (.ref b284), (.ref b284)])) _
            refine XS.aload X298.here hx rfl (hb hby at_129) rfl rfl ?_
            show Steps p.tables e below (T298.setTop (mkF m 131 #[iv p0_0, iv p0_1, iv p0_2, iv p0_3, iv (1 : Int32), rv s_FIRST_LEVEL, rv s_DENY, iv lv, iv (0 : Int32), .unset] [(.ref s_FIRST_LEVEL), (.ref s_DENY), .null, (.ref sa298), (.ref b284), (.ref b284)])) _
            refine st305.trans ?_
            show Steps p.tables e below (T305.setTop (mkF m 134 #[iv p0_0, iv p0_1, iv p0_2, iv p0_3, iv (1 : Int32), rv s_FIRST_LEVEL, rv s_DENY, iv lv, iv (0 : Int32), .unset] [(.ref b284)])) _
            refine XS.astore X305.here hx rfl (hb hby at_134) rfl rfl (l' := #[iv p0_0, iv p0_1, iv p0_2, iv p0_3, iv (1 : Int32), rv s_FIRST_LEVEL, rv s_DENY, iv lv, iv (0 : Int32), rv b284]) rfl ?_
            show Steps p.tables e below (T305.setTop (mkF m 136 #[iv p0_0, iv p0_1, iv p0_2, iv p0_3, iv (1 : Int32), rv s_FIRST_LEVEL, rv s_DENY, iv lv, iv (0 : Int32), rv b284] [])) _
            refine XS.aload X305.here hx rfl (hb hby at_136) rfl rfl ?_
            show Steps p.tables e below (T305.setTop (mkF m 138 #[iv p0_0, iv p0_1, iv p0_2, iv p0_3, iv (1 : Int32), rv s_FIRST_LEVEL, rv s_DENY, iv lv, iv (0 : Int32), rv b284] [(.ref b284)])) _
            refine XS.iload X305.here hx rfl (hb hby at_138) rfl ?_
            show Steps p.tables e below (T305.setTop (mkF m 140 #[iv p0_0, iv p0_1, iv p0_2, iv p0_3, iv (1 : Int32), rv s_FIRST_LEVEL, rv s_DENY, iv lv, iv (0 : Int32), rv b284] [(.int lv), (.ref b284)])) _
            refine st310.trans ?_
            rw [q314]
            show Steps p.tables e below (T310.setTop (mkF m 143 #[iv p0_0, iv p0_1, iv p0_2, iv p0_3, iv (1 : Int32), rv s_FIRST_LEVEL, rv s_DENY, iv lv, iv (0 : Int32), rv b284] [(.int (0 : Int32))])) _
            show Steps p.tables e below (T310.setTop (mkF m 143 #[iv p0_0, iv p0_1, iv p0_2, iv p0_3, iv (1 : Int32), rv s_FIRST_LEVEL, rv s_DENY, iv lv, iv (0 : Int32), rv b284] [(.int (0 : Int32))])) _
            refine XS.iload X310.here hx rfl (hb hby at_143) rfl ?_
            show Steps p.tables e below (T310.setTop (mkF m 145 #[iv p0_0, iv p0_1, iv p0_2, iv p0_3, iv (1 : Int32), rv s_FIRST_LEVEL, rv s_DENY, iv lv, iv (0 : Int32), rv b284] [(.int (0 : Int32)), (.int (0 : Int32))])) _
            refine XS.icmpNo X310.here hx rfl (hb hby at_145) rfl (teq (by decide : (0 : Int32) = (0 : Int32))).2 ?_
            show Steps p.tables e below (T310.setTop (mkF m 148 #[iv p0_0, iv p0_1, iv p0_2, iv p0_3, iv (1 : Int32), rv s_FIRST_LEVEL, rv s_DENY, iv lv, iv (0 : Int32), rv b284] [])) _
            refine XS.iconst X310.here hx rfl (hb hby at_148) ?_
            show Steps p.tables e below (T310.setTop (mkF m 149 #[iv p0_0, iv p0_1, iv p0_2, iv p0_3, iv (1 : Int32), rv s_FIRST_LEVEL, rv s_DENY, iv lv, iv (0 : Int32), rv b284] [(.int (1 : Int32))])) _
            refine XS.goto X310.here hx rfl (pc0 := 149) (pc' := 153) rfl (hb hby at_149) (by decide) (by decide) ?_
            show Steps p.tables e below (T310.setTop (mkF m 153 #[iv p0_0, iv p0_1, iv p0_2, iv p0_3, iv (1 : Int32), rv s_FIRST_LEVEL, rv s_DENY, iv lv, iv (0 : Int32), rv b284] [(.int (1 : Int32))])) _
            exact retN X310 hx (t := .boolean) Bd.returns (by simp) (hb hby at_153) hr
          · show Q_rm0 Z _ _ _ _ _ _ _ _ _ h0 n0 _ T310.heap _
            rw [K310q]
            exact ⟨rfl, N313, (K308)⟩
        · skip
          obtain ⟨T316, h316, X316, e316, E316, A316, D316, -, st316⟩ := newO X279 hx hZ hown wo7 wo8 wo9 e279 (g := (mkF m 120 #[iv p0_0, iv p0_1, iv p0_2, iv p0_3, iv (1 : Int32), rv s_FIRST_LEVEL, rv s_DENY, iv lv, iv (1 : Int32), .unset] [])) rfl (hb hby at_120) (by decide) (by decide)
          obtain ⟨b316, gg316⟩ : ∃ z, z = h0.size := ⟨_, rfl⟩
          rw [← gg316] at A316 D316 st316
          have ne317 : s_NO_PROP ≠ b316 := Nat.ne_of_lt (Nat.lt_of_lt_of_le pf_E_s_NO_PROP.lt (Nat.le_of_eq gg316.symm))
          have ne318 : s_GRANT ≠ b316 := Nat.ne_of_lt (Nat.lt_of_lt_of_le pf_E_s_GRANT.lt (Nat.le_of_eq gg316.symm))
          have ne319 : s_FIRST_LEVEL ≠ b316 := Nat.ne_of_lt (Nat.lt_of_lt_of_le pf_E_s_FIRST_LEVEL.lt (Nat.le_of_eq gg316.symm))
          have ne320 : s_DENY ≠ b316 := Nat.ne_of_lt (Nat.lt_of_lt_of_le pf_E_s_DENY.lt (Nat.le_of_eq gg316.symm))
          have ne321 : s_CASCADE ≠ b316 := Nat.ne_of_lt (Nat.lt_of_lt_of_le pf_E_s_CASCADE.lt (Nat.le_of_eq gg316.symm))
          have g322 : n0 ≤ b316 := Nat.le_trans Z0 (Nat.le_of_eq gg316.symm)
          have bz323 : h0.size ≤ b316 := Nat.le_trans (Keep.refl h0 []).1 (Nat.le_of_eq gg316.symm)
          have K324 : Keep h0 h316 [] := (Keep.refl h0 []).ext E316
          have f325 : Fld Z h316 b316 "com/example/arbiter/arbiter/NodeRule" "path" "Ljava/lang/String;" .null := D316 (Or.inr wo25) (ty := (.object "java/lang/String")) (by decide)
          have f326 : Fld Z h316 b316 "com/example/arbiter/arbiter/NodeRule" "operation" "Lcom/example/arbiter/arbiter/DocumentOperation;" .null := D316 (Or.inr wo27) (ty := (.object "com/example/arbiter/arbiter/DocumentOperation")) (by decide)
          have f327 : Fld Z h316 b316 "com/example/arbiter/arbiter/NodeRule" "sign" "Lcom/example/arbiter/arbiter/NodeRule$Sign;" .null := D316 (Or.inr wo29) (ty := (.object "com/example/arbiter/arbiter/NodeRule$Sign")) (by decide)
          have f328 : Fld Z h316 b316 "com/example/arbiter/arbiter/NodeRule" "propagation" "Lcom/example/arbiter/arbiter/NodeRule$Propagation;" .null := D316 (Or.inr wo31) (ty := (.object "com/example/arbiter/arbiter/NodeRule$Propagation")) (by decide)
          have pre329 : ∀ t, Steps p.tables e below (T316.setTop (mkF m 124 #[iv p0_0, iv p0_1, iv p0_2, iv p0_3, iv (1 : Int32), rv s_FIRST_LEVEL, rv s_DENY, iv lv, iv (1 : Int32), .unset] [(.ref b316), (.ref b316)])) t → Steps p.tables e below (s₁.setTop (entryFrame m #[(.int p0_0), (.int p0_1), (.int p0_2), (.int p0_3)] maxLocals)) t := by
            intro t_ k_
            refine pre283 _ ?_
            show Steps p.tables e below (T279.setTop (mkF m 104 #[iv p0_0, iv p0_1, iv p0_2, iv p0_3, iv (1 : Int32), rv s_FIRST_LEVEL, rv s_DENY, iv lv, .unset, .unset] [(.int (1 : Int32)), (.int lv)])) _
            refine XS.icmpNo X279.here hx rfl (hb hby at_104) rfl (flt hc104_282).2.2.1 ?_
            show Steps p.tables e below (T279.setTop (mkF m 107 #[iv p0_0, iv p0_1, iv p0_2, iv p0_3, iv (1 : Int32), rv s_FIRST_LEVEL, rv s_DENY, iv lv, .unset, .unset] [])) _
            refine XS.iconst X279.here hx rfl (hb hby at_107) ?_
            show Steps p.tables e below (T279.setTop (mkF m 108 #[iv p0_0, iv p0_1, iv p0_2, iv p0_3, iv (1 : Int32), rv s_FIRST_LEVEL, rv s_DENY, iv lv, .unset, .unset] [(.int (1 : Int32))])) _
            refine XS.goto X279.here hx rfl (pc0 := 108) (pc' := 112) rfl (hb hby at_108) (by decide) (by decide) ?_
            show Steps p.tables e below (T279.setTop (mkF m 112 #[iv p0_0, iv p0_1, iv p0_2, iv p0_3, iv (1 : Int32), rv s_FIRST_LEVEL, rv s_DENY, iv lv, .unset, .unset] [(.int (1 : Int32))])) _
            refine XS.istore X279.here hx rfl (hb hby at_112) rfl (l' := #[iv p0_0, iv p0_1, iv p0_2, iv p0_3, iv (1 : Int32), rv s_FIRST_LEVEL, rv s_DENY, iv lv, iv (1 : Int32), .unset]) rfl ?_
            show Steps p.tables e below (T279.setTop (mkF m 114 #[iv p0_0, iv p0_1, iv p0_2, iv p0_3, iv (1 : Int32), rv s_FIRST_LEVEL, rv s_DENY, iv lv, iv (1 : Int32), .unset] [])) _
            refine XS.goto X279.here hx rfl (pc0 := 114) (pc' := 120) rfl (hb hby at_114) (by decide) (by decide) ?_
            show Steps p.tables e below (T279.setTop (mkF m 120 #[iv p0_0, iv p0_1, iv p0_2, iv p0_3, iv (1 : Int32), rv s_FIRST_LEVEL, rv s_DENY, iv lv, iv (1 : Int32), .unset] [])) _
            refine st316 _ ?_
            show Steps p.tables e below (T316.setTop (mkF m 123 #[iv p0_0, iv p0_1, iv p0_2, iv p0_3, iv (1 : Int32), rv s_FIRST_LEVEL, rv s_DENY, iv lv, iv (1 : Int32), .unset] [(.ref b316)])) _
            refine XS.dup X316.here hx rfl (hb hby at_123) rfl rfl ?_
            exact k_
          obtain ⟨sa330, T330, h330, k330, X330, e330, E330, S330, K330, hZ, hown, st330⟩ := ldcS (s := s) (vm0 := s.vm) X316 hx hZ hown wo10 (fun d hd => hw d ((by decide +kernel : ∀ d ∈ Bundle.stringAtoms, d ∈ tables_1) d hd)) e316 ((State.WarmedH.refl s).since 0) (Nat.zero_le _) (g := (mkF m 124 #[iv p0_0, iv p0_1, iv p0_2, iv p0_3, iv (1 : Int32), rv s_FIRST_LEVEL, rv s_DENY, iv lv, iv (1 : Int32), .unset] [(.ref b316), (.ref b316)])) rfl (hb hby at_124) (n := 4) (by decide) (by decide) (by decide) (by decide)
          have K331 : Keep h0 h330 [] := (K324).ext E330
          have f332 := (A316.ext E330)
          have f333 := (f325.ext E330)
          have f334 := (f326.ext E330)
          have f335 := (f327.ext E330)
          have f336 := (f328.ext E330)
          have f338 := (Nat.le_trans (Nat.le_trans Z0 E316.1) E330.1)
          obtain ⟨_, _, ⟨T337, L337, k337, n337⟩, -, X337, ⟨Lc337, hQ337, l337, y337, z337⟩, st337⟩ := X330.specialBack hx (y := MN1) rfl hown (mvT hZ wo18) (mvT hZ wo19) (mvT hZ wo20) (by decide) (backOf (W := 1) (rm1 l Z a0 hw [] b316 sa330 s_DENY s_FIRST_LEVEL h330 n0 f338 f332 g322 f333 f334 f335 f336) hZ wo20 wo9 (by decide) (by decide)) (g := (mkF m 131 #[iv p0_0, iv p0_1, iv p0_2, iv p0_3, iv (1 : Int32), rv s_FIRST_LEVEL, rv s_DENY, iv lv, iv (1 : Int32), .unset] [(.ref s_FIRST_LEVEL), (.ref s_DENY), .null, (.ref sa330), (.ref b316), (.ref b316)])) rfl (by rw [hml]; rfl) (Steps.refl _) (a := b316) (argsL := [(.ref sa330), .null, (.ref s_DENY), (.ref s_FIRST_LEVEL)]) (rest := [(.ref b316)]) (lenOf pd_2 rfl) rfl (by show 2 * 0 + _ ≤ _; exact Nat.le_of_eq rfl) (hb hby at_131) (fun _ _ => ⟨rfl, e330, (by decide : 3 + 0 ≤ _), (by decide : 12 + 0 ≤ _)⟩)
          dsimp only [Pt.U, Pt.locs, Pt.cells, Pt.slots] at X337 l337 y337 z337 st337 hQ337
          rw [l337, y337, z337] at X337
          obtain ⟨rfl, N337q, K337q, hq337_0⟩ := hQ337
          have N339 := Fr.app N0 N337q
          have K340 : Keep h0 T337.heap [] := (K331).trans K337q (allS (P := fun x => x ∈ [] ∨ h0.size ≤ x) (Or.inr bz323) all0)
          have f341 := (((pf_F_s_FIRST_LEVEL_levels.ext E316).ext E330).keep K337q (ninS ne319 nin0))
          have f343 := (Nat.le_trans f338 K337q.1)
          have f344 := (f332.keep K337q)
          obtain ⟨cq342, kq342, q342a, q342b, q342c⟩ := isOf hZ rfl f344
          obtain ⟨_, _, ⟨T342, L342, k342, n342⟩, -, X342, ⟨Lc342, hQ342, l342, y342, z342⟩, st342⟩ := X337.virtualBack hx (y := MN3) (z := MN3) hown (mvT hZ wo32) (mvT hZ wo33) (notFace_of_selects (args := #[]) (mvT hZ wo35)) (mvT hZ wo35) (mvT hZ wo34) (by decide) (backOf (W := 0) (rm3 l Z a0 hw [] b316 lv s_FIRST_LEVEL (1 : Int32) (T337.heap) n0 f343 hq337_0 f341) hZ wo36 wo9 (by decide) (by decide)) q342a q342c (g := (mkF m 140 #[iv p0_0, iv p0_1, iv p0_2, iv p0_3, iv (1 : Int32), rv s_FIRST_LEVEL, rv s_DENY, iv lv, iv (1 : Int32), rv b316] [(.int lv), (.ref b316)])) rfl (by rw [hml]; rfl) (Steps.refl _) (argsL := [(.int lv)]) (rest := []) (lenOf pd_1 rfl) rfl (by show 2 * 0 + _ ≤ _; exact Nat.le_of_eq rfl) (hb hby at_140) (fun _ _ => ⟨rfl, rfl, (by decide : 3 + 0 ≤ _), (by decide : 12 + 0 ≤ _)⟩)
          dsimp only [Pt.U, Pt.locs, Pt.cells, Pt.slots] at X342 l342 y342 z342 st342 hQ342
          rw [l342, y342, z342] at X342
          obtain ⟨rfl, N342q, K342q⟩ := hQ342
          have N345 := Fr.app N339 N342q
          have q346 : (if (1 : Int32) < lv then (0 : Int32) else (1 : Int32)) = (1 : Int32) := if_neg hc104_282
          have f347 := (Nat.le_trans K330 K337q.1)
          obtain ⟨fs, hr, hrun, hended, -, hW1, hW2, hW3⟩ := X342.leaveW S330 (by rw [K342q]; exact f347) (v := some (.int (1 : Int32))) (fun h => by rw [Bd.returns] at h; cases h)
          refine ⟨_, _, pre329 _ ?_, hrun, hended, _, _, rfl, ?_, hW1, hW2, hW3.mono (by decide) (by decide)⟩
          · show Steps p.tables e below (T316.setTop (mkF m 124 #[iv p0_0, iv p0_1, iv p0_2, iv p0_3, iv (1 : Int32), rv s_FIRST_LEVEL, rv s_DENY, iv lv, iv (1 : Int32), .unset] [(.ref b316), (.ref b316)])) _
            refine st330 _ ?_
            show Steps p.tables e below (T330.setTop (mkF m 126 #[iv p0_0, iv p0_1, iv p0_2, iv p0_3, iv (1 : Int32), rv s_FIRST_LEVEL, rv s_DENY, iv lv, iv (1 : Int32), .unset] [(.ref sa330), (.ref b316), (.ref b316)])) _
            refine XS.aconstNull X330.here hx rfl (hb hby at_126) ?_
            show Steps p.tables e below (T330.setTop (mkF m 127 #[iv p0_0, iv p0_1, iv p0_2, iv p0_3, iv (1 : Int32), rv s_FIRST_LEVEL, rv s_DENY, iv lv, iv (1 : Int32), .unset] [.null, (.ref sa330), (.ref b316), (.ref b316)])) _
            refine XS.aload X330.here hx rfl (hb hby at_127) rfl rfl ?_
            show Steps p.tables e below (T330.setTop (mkF m 129 #[iv p0_0, iv p0_1, iv p0_2, iv p0_3, iv (1 : Int32), rv s_FIRST_LEVEL, rv s_DENY, iv lv, iv (1 : Int32), .unset] [(.ref s_DENY), .null, (.ref sa330), (.ref b316), (.ref b316)])) _
            refine XS.aload X330.here hx rfl (hb hby at_129) rfl rfl ?_
            show Steps p.tables e below (T330.setTop (mkF m 131 #[iv p0_0, iv p0_1, iv p0_2, iv p0_3, iv (1 : Int32), rv s_FIRST_LEVEL, rv s_DENY, iv lv, iv (1 : Int32), .unset] [(.ref s_FIRST_LEVEL), (.ref s_DENY), .null, (.ref sa330), (.ref b316), (.ref b316)])) _
            refine st337.trans ?_
            show Steps p.tables e below (T337.setTop (mkF m 134 #[iv p0_0, iv p0_1, iv p0_2, iv p0_3, iv (1 : Int32), rv s_FIRST_LEVEL, rv s_DENY, iv lv, iv (1 : Int32), .unset] [(.ref b316)])) _
            refine XS.astore X337.here hx rfl (hb hby at_134) rfl rfl (l' := #[iv p0_0, iv p0_1, iv p0_2, iv p0_3, iv (1 : Int32), rv s_FIRST_LEVEL, rv s_DENY, iv lv, iv (1 : Int32), rv b316]) rfl ?_
            show Steps p.tables e below (T337.setTop (mkF m 136 #[iv p0_0, iv p0_1, iv p0_2, iv p0_3, iv (1 : Int32), rv s_FIRST_LEVEL, rv s_DENY, iv lv, iv (1 : Int32), rv b316] [])) _
            refine XS.aload X337.here hx rfl (hb hby at_136) rfl rfl ?_
            show Steps p.tables e below (T337.setTop (mkF m 138 #[iv p0_0, iv p0_1, iv p0_2, iv p0_3, iv (1 : Int32), rv s_FIRST_LEVEL, rv s_DENY, iv lv, iv (1 : Int32), rv b316] [(.ref b316)])) _
            refine XS.iload X337.here hx rfl (hb hby at_138) rfl ?_
            show Steps p.tables e below (T337.setTop (mkF m 140 #[iv p0_0, iv p0_1, iv p0_2, iv p0_3, iv (1 : Int32), rv s_FIRST_LEVEL, rv s_DENY, iv lv, iv (1 : Int32), rv b316] [(.int lv), (.ref b316)])) _
            refine st342.trans ?_
            rw [q346]
            show Steps p.tables e below (T342.setTop (mkF m 143 #[iv p0_0, iv p0_1, iv p0_2, iv p0_3, iv (1 : Int32), rv s_FIRST_LEVEL, rv s_DENY, iv lv, iv (1 : Int32), rv b316] [(.int (1 : Int32))])) _
            show Steps p.tables e below (T342.setTop (mkF m 143 #[iv p0_0, iv p0_1, iv p0_2, iv p0_3, iv (1 : Int32), rv s_FIRST_LEVEL, rv s_DENY, iv lv, iv (1 : Int32), rv b316] [(.int (1 : Int32))])) _
            refine XS.iload X342.here hx rfl (hb hby at_143) rfl ?_
            show Steps p.tables e below (T342.setTop (mkF m 145 #[iv p0_0, iv p0_1, iv p0_2, iv p0_3, iv (1 : Int32), rv s_FIRST_LEVEL, rv s_DENY, iv lv, iv (1 : Int32), rv b316] [(.int (1 : Int32)), (.int (1 : Int32))])) _
            refine XS.icmpNo X342.here hx rfl (hb hby at_145) rfl (teq (by decide : (1 : Int32) = (1 : Int32))).2 ?_
            show Steps p.tables e below (T342.setTop (mkF m 148 #[iv p0_0, iv p0_1, iv p0_2, iv p0_3, iv (1 : Int32), rv s_FIRST_LEVEL, rv s_DENY, iv lv, iv (1 : Int32), rv b316] [])) _
            refine XS.iconst X342.here hx rfl (hb hby at_148) ?_
            show Steps p.tables e below (T342.setTop (mkF m 149 #[iv p0_0, iv p0_1, iv p0_2, iv p0_3, iv (1 : Int32), rv s_FIRST_LEVEL, rv s_DENY, iv lv, iv (1 : Int32), rv b316] [(.int (1 : Int32))])) _
            refine XS.goto X342.here hx rfl (pc0 := 149) (pc' := 153) rfl (hb hby at_149) (by decide) (by decide) ?_
            show Steps p.tables e below (T342.setTop (mkF m 153 #[iv p0_0, iv p0_1, iv p0_2, iv p0_3, iv (1 : Int32), rv s_FIRST_LEVEL, rv s_DENY, iv lv, iv (1 : Int32), rv b316] [(.int (1 : Int32))])) _
            exact retN X342 hx (t := .boolean) Bd.returns (by simp) (hb hby at_153) hr
          · show Q_rm0 Z _ _ _ _ _ _ _ _ _ h0 n0 _ T342.heap _
            rw [K342q]
            exact ⟨rfl, N345, (K340)⟩
      · skip
        obtain ⟨lv, h_lv⟩ : ∃ z : Int32, z = (p0_2 &&& (3 : Int32)) := ⟨_, rfl⟩
        have hlv : 0 ≤ lv.toInt := by rw [h_lv]; first | exact own_3 _ | exact own_m _
        have pre349 : ∀ t, Steps p.tables e below (T279.setTop (mkF m 104 #[iv p0_0, iv p0_1, iv p0_2, iv p0_3, iv (1 : Int32), rv s_FIRST_LEVEL, rv s_DENY, iv lv, .unset, .unset] [(.int (1 : Int32)), (.int lv)])) t → Steps p.tables e below (s₁.setTop (entryFrame m #[(.int p0_0), (.int p0_1), (.int p0_2), (.int p0_3)] maxLocals)) t := by
          intro t_ k_
          refine pre281 _ ?_
          show Steps p.tables e below (T279.setTop (mkF m 60 #[iv p0_0, iv p0_1, iv p0_2, iv p0_3, iv (1 : Int32), rv s_FIRST_LEVEL, rv s_DENY, .unset, .unset, .unset] [(.int (p0_3 &&& (1 : Int32)))])) _
          refine XS.ifNo X279.here hx rfl (hb hby at_60) rfl ((if0 _ _).trans (feq hc60_280).1) ?_
          show Steps p.tables e below (T279.setTop (mkF m 63 #[iv p0_0, iv p0_1, iv p0_2, iv p0_3, iv (1 : Int32), rv s_FIRST_LEVEL, rv s_DENY, .unset, .unset, .unset] [])) _
          refine XS.iloadN X279.here hx rfl (hb hby at_63) rfl ?_
          show Steps p.tables e below (T279.setTop (mkF m 64 #[iv p0_0, iv p0_1, iv p0_2, iv p0_3, iv (1 : Int32), rv s_FIRST_LEVEL, rv s_DENY, .unset, .unset, .unset] [(.int p0_2)])) _
          refine XS.iconst X279.here hx rfl (hb hby at_64) ?_
          show Steps p.tables e below (T279.setTop (mkF m 65 #[iv p0_0, iv p0_1, iv p0_2, iv p0_3, iv (1 : Int32), rv s_FIRST_LEVEL, rv s_DENY, .unset, .unset, .unset] [(.int (3 : Int32)), (.int p0_2)])) _
          refine XS.iand X279.here hx rfl (hb hby at_65) rfl ?_
          show Steps p.tables e below (T279.setTop (mkF m 66 #[iv p0_0, iv p0_1, iv p0_2, iv p0_3, iv (1 : Int32), rv s_FIRST_LEVEL, rv s_DENY, .unset, .unset, .unset] [(.int (p0_2 &&& (3 : Int32)))])) _
          refine XS.goto X279.here hx rfl (pc0 := 66) (pc' := 73) rfl (hb hby at_66) (by decide) (by decide) ?_
          show Steps p.tables e below (T279.setTop (mkF m 73 #[iv p0_0, iv p0_1, iv p0_2, iv p0_3, iv (1 : Int32), rv s_FIRST_LEVEL, rv s_DENY, .unset, .unset, .unset] [(.int (p0_2 &&& (3 : Int32)))])) _
          refine XS.istore X279.here hx rfl (hb hby at_73) rfl (l' := #[iv p0_0, iv p0_1, iv p0_2, iv p0_3, iv (1 : Int32), rv s_FIRST_LEVEL, rv s_DENY, iv (p0_2 &&& (3 : Int32)), .unset, .unset]) rfl ?_
          rw [← h_lv]
          show Steps p.tables e below (T279.setTop (mkF m 75 #[iv p0_0, iv p0_1, iv p0_2, iv p0_3, iv (1 : Int32), rv s_FIRST_LEVEL, rv s_DENY, iv lv, .unset, .unset] [])) _
          show Steps p.tables e below (T279.setTop (mkF m 75 #[iv p0_0, iv p0_1, iv p0_2, iv p0_3, iv (1 : Int32), rv s_FIRST_LEVEL, rv s_DENY, iv lv, .unset, .unset] [])) _
          refine XS.iload X279.here hx rfl (hb hby at_75) rfl ?_
          show Steps p.tables e below (T279.setTop (mkF m 77 #[iv p0_0, iv p0_1, iv p0_2, iv p0_3, iv (1 : Int32), rv s_FIRST_LEVEL, rv s_DENY, iv lv, .unset, .unset] [(.int (1 : Int32))])) _
          refine XS.ifYes X279.here hx rfl (pc0 := 77) (pc' := 95) rfl (hb hby at_77) rfl ((if0 _ _).trans (feq (by decide : ¬ ((1 : Int32) = (0 : Int32)))).2) (by decide) (by decide) ?_
          show Steps p.tables e below (T279.setTop (mkF m 95 #[iv p0_0, iv p0_1, iv p0_2, iv p0_3, iv (1 : Int32), rv s_FIRST_LEVEL, rv s_DENY, iv lv, .unset, .unset] [])) _
          refine XS.iload X279.here hx rfl (hb hby at_95) rfl ?_
          show Steps p.tables e below (T279.setTop (mkF m 97 #[iv p0_0, iv p0_1, iv p0_2, iv p0_3, iv (1 : Int32), rv s_FIRST_LEVEL, rv s_DENY, iv lv, .unset, .unset] [(.int (1 : Int32))])) _
          refine XS.iconst X279.here hx rfl (hb hby at_97) ?_
          show Steps p.tables e below (T279.setTop (mkF m 98 #[iv p0_0, iv p0_1, iv p0_2, iv p0_3, iv (1 : Int32), rv s_FIRST_LEVEL, rv s_DENY, iv lv, .unset, .unset] [(.int (1 : Int32)), (.int (1 : Int32))])) _
          refine XS.icmpNo X279.here hx rfl (hb hby at_98) rfl (teq (by decide : (1 : Int32) = (1 : Int32))).2 ?_
          show Steps p.tables e below (T279.setTop (mkF m 101 #[iv p0_0, iv p0_1, iv p0_2, iv p0_3, iv (1 : Int32), rv s_FIRST_LEVEL, rv s_DENY, iv lv, .unset, .unset] [])) _
          refine XS.iload X279.here hx rfl (hb hby at_101) rfl ?_
          show Steps p.tables e below (T279.setTop (mkF m 103 #[iv p0_0, iv p0_1, iv p0_2, iv p0_3, iv (1 : Int32), rv s_FIRST_LEVEL, rv s_DENY, iv lv, .unset, .unset] [(.int lv)])) _
          refine XS.iconst X279.here hx rfl (hb hby at_103) ?_
          exact k_
        by_cases hc104_348 : (1 : Int32) < lv
        · skip
          obtain ⟨T350, h350, X350, e350, E350, A350, D350, -, st350⟩ := newO X279 hx hZ hown wo7 wo8 wo9 e279 (g := (mkF m 120 #[iv p0_0, iv p0_1, iv p0_2, iv p0_3, iv (1 : Int32), rv s_FIRST_LEVEL, rv s_DENY, iv lv, iv (0 : Int32), .unset] [])) rfl (hb hby at_120) (by decide) (by decide)
          obtain ⟨b350, gg350⟩ : ∃ z, z = h0.size := ⟨_, rfl⟩
          rw [← gg350] at A350 D350 st350
          have ne351 : s_NO_PROP ≠ b350 := Nat.ne_of_lt (Nat.lt_of_lt_of_le pf_E_s_NO_PROP.lt (Nat.le_of_eq gg350.symm))
          have ne352 : s_GRANT ≠ b350 := Nat.ne_of_lt (Nat.lt_of_lt_of_le pf_E_s_GRANT.lt (Nat.le_of_eq gg350.symm))
          have ne353 : s_FIRST_LEVEL ≠ b350 := Nat.ne_of_lt (Nat.lt_of_lt_of_le pf_E_s_FIRST_LEVEL.lt (Nat.le_of_eq gg350.symm))
          have ne354 : s_DENY ≠ b350 := Nat.ne_of_lt (Nat.lt_of_lt_of_le pf_E_s_DENY.lt (Nat.le_of_eq gg350.symm))
          have ne355 : s_CASCADE ≠ b350 := Nat.ne_of_lt (Nat.lt_of_lt_of_le pf_E_s_CASCADE.lt (Nat.le_of_eq gg350.symm))
          have g356 : n0 ≤ b350 := Nat.le_trans Z0 (Nat.le_of_eq gg350.symm)
          have bz357 : h0.size ≤ b350 := Nat.le_trans (Keep.refl h0 []).1 (Nat.le_of_eq gg350.symm)
          have K358 : Keep h0 h350 [] := (Keep.refl h0 []).ext E350
          have f359 : Fld Z h350 b350 "com/example/arbiter/arbiter/NodeRule" "path" "Ljava/lang/String;" .null := D350 (Or.inr wo25) (ty := (.object "java/lang/String")) (by decide)
          have f360 : Fld Z h350 b350 "com/example/arbiter/arbiter/NodeRule" "operation" "Lcom/example/arbiter/arbiter/DocumentOperation;" .null := D350 (Or.inr wo27) (ty := (.object "com/example/arbiter/arbiter/DocumentOperation")) (by decide)
          have f361 : Fld Z h350 b350 "com/example/arbiter/arbiter/NodeRule" "sign" "Lcom/example/arbiter/arbiter/NodeRule$Sign;" .null := D350 (Or.inr wo29) (ty := (.object "com/example/arbiter/arbiter/NodeRule$Sign")) (by decide)
          have f362 : Fld Z h350 b350 "com/example/arbiter/arbiter/NodeRule" "propagation" "Lcom/example/arbiter/arbiter/NodeRule$Propagation;" .null := D350 (Or.inr wo31) (ty := (.object "com/example/arbiter/arbiter/NodeRule$Propagation")) (by decide)
          have pre363 : ∀ t, Steps p.tables e below (T350.setTop (mkF m 124 #[iv p0_0, iv p0_1, iv p0_2, iv p0_3, iv (1 : Int32), rv s_FIRST_LEVEL, rv s_DENY, iv lv, iv (0 : Int32), .unset] [(.ref b350), (.ref b350)])) t → Steps p.tables e below (s₁.setTop (entryFrame m #[(.int p0_0), (.int p0_1), (.int p0_2), (.int p0_3)] maxLocals)) t := by
            intro t_ k_
            refine pre349 _ ?_
            show Steps p.tables e below (T279.setTop (mkF m 104 #[iv p0_0, iv p0_1, iv p0_2, iv p0_3, iv (1 : Int32), rv s_FIRST_LEVEL, rv s_DENY, iv lv, .unset, .unset] [(.int (1 : Int32)), (.int lv)])) _
            refine XS.icmpYes X279.here hx rfl (pc0 := 104) (pc' := 111) rfl (hb hby at_104) rfl (tlt hc104_348).2.2.1 (by decide) (by decide) ?_
            show Steps p.tables e below (T279.setTop (mkF m 111 #[iv p0_0, iv p0_1, iv p0_2, iv p0_3, iv (1 : Int32), rv s_FIRST_LEVEL, rv s_DENY, iv lv, .unset, .unset] [])) _
            refine XS.iconst X279.here hx rfl (hb hby at_111) ?_
            show Steps p.tables e below (T279.setTop (mkF m 112 #[iv p0_0, iv p0_1, iv p0_2, iv p0_3, iv (1 : Int32), rv s_FIRST_LEVEL, rv s_DENY, iv lv, .unset, .unset] [(.int (0 : Int32))])) _
            refine XS.istore X279.here hx rfl (hb hby at_112) rfl (l' := #[iv p0_0, iv p0_1, iv p0_2, iv p0_3, iv (1 : Int32), rv s_FIRST_LEVEL, rv s_DENY, iv lv, iv (0 : Int32), .unset]) rfl ?_
            show Steps p.tables e below (T279.setTop (mkF m 114 #[iv p0_0, iv p0_1, iv p0_2, iv p0_3, iv (1 : Int32), rv s_FIRST_LEVEL, rv s_DENY, iv lv, iv (0 : Int32), .unset] [])) _
            refine XS.goto X279.here hx rfl (pc0 := 114) (pc' := 120) rfl (hb hby at_114) (by decide) (by decide) ?_
            show Steps p.tables e below (T279.setTop (mkF m 120 #[iv p0_0, iv p0_1, iv p0_2, iv p0_3, iv (1 : Int32), rv s_FIRST_LEVEL, rv s_DENY, iv lv, iv (0 : Int32), .unset] [])) _
            refine st350 _ ?_
            show Steps p.tables e below (T350.setTop (mkF m 123 #[iv p0_0, iv p0_1, iv p0_2, iv p0_3, iv (1 : Int32), rv s_FIRST_LEVEL, rv s_DENY, iv lv, iv (0 : Int32), .unset] [(.ref b350)])) _
            refine XS.dup X350.here hx rfl (hb hby at_123) rfl rfl ?_
            exact k_
          obtain ⟨sa364, T364, h364, k364, X364, e364, E364, S364, K364, hZ, hown, st364⟩ := ldcS (s := s) (vm0 := s.vm) X350 hx hZ hown wo10 (fun d hd => hw d ((by decide +kernel : ∀ d ∈ Bundle.stringAtoms, d ∈ tables_1) d hd)) e350 ((State.WarmedH.refl s).since 0) (Nat.zero_le _) (g := (mkF m 124 #[iv p0_0, iv p0_1, iv p0_2, iv p0_3, iv (1 : Int32), rv s_FIRST_LEVEL, rv s_DENY, iv lv, iv (0 : Int32), .unset] [(.ref b350), (.ref b350)])) rfl (hb hby at_124) (n := 4) (by decide) (by decide) (by decide) (by decide)
          have K365 : Keep h0 h364 [] := (K358).ext E364
          have f366 := (A350.ext E364)
          have f367 := (f359.ext E364)
          have f368 := (f360.ext E364)
          have f369 := (f361.ext E364)
          have f370 := (f362.ext E364)
          have f372 := (Nat.le_trans (Nat.le_trans Z0 E350.1) E364.1)
          obtain ⟨_, _, ⟨T371, L371, k371, n371⟩, -, X371, ⟨Lc371, hQ371, l371, y371, z371⟩, st371⟩ := X364.specialBack hx (y := MN1) rfl hown (mvT hZ wo18) (mvT hZ wo19) (mvT hZ wo20) (by decide) (backOf (W := 1) (rm1 l Z a0 hw [] b350 sa364 s_DENY s_FIRST_LEVEL h364 n0 f372 f366 g356 f367 f368 f369 f370) hZ wo20 wo9 (by decide) (by decide)) (g := (mkF m 131 #[iv p0_0, iv p0_1, iv p0_2, iv p0_3, iv (1 : Int32), rv s_FIRST_LEVEL, rv s_DENY, iv lv, iv (0 : Int32), .unset] [(.ref s_FIRST_LEVEL), (.ref s_DENY), .null, (.ref sa364), (.ref b350), (.ref b350)])) rfl (by rw [hml]; rfl) (Steps.refl _) (a := b350) (argsL := [(.ref sa364), .null, (.ref s_DENY), (.ref s_FIRST_LEVEL)]) (rest := [(.ref b350)]) (lenOf pd_2 rfl) rfl (by show 2 * 0 + _ ≤ _; exact Nat.le_of_eq rfl) (hb hby at_131) (fun _ _ => ⟨rfl, e364, (by decide : 3 + 0 ≤ _), (by decide : 12 + 0 ≤ _)⟩)
          dsimp only [Pt.U, Pt.locs, Pt.cells, Pt.slots] at X371 l371 y371 z371 st371 hQ371
          rw [l371, y371, z371] at X371
          obtain ⟨rfl, N371q, K371q, hq371_0⟩ := hQ371
          have N373 := Fr.app N0 N371q
          have K374 : Keep h0 T371.heap [] := (K365).trans K371q (allS (P := fun x => x ∈ [] ∨ h0.size ≤ x) (Or.inr bz357) all0)
          have f375 := (((pf_F_s_FIRST_LEVEL_levels.ext E350).ext E364).keep K371q (ninS ne353 nin0))
          have f377 := (Nat.le_trans f372 K371q.1)
          have f378 := (f366.keep K371q)
          obtain ⟨cq376, kq376, q376a, q376b, q376c⟩ := isOf hZ rfl f378
          obtain ⟨_, _, ⟨T376, L376, k376, n376⟩, -, X376, ⟨Lc376, hQ376, l376, y376, z376⟩, st376⟩ := X371.virtualBack hx (y := MN3) (z := MN3) hown (mvT hZ wo32) (mvT hZ wo33) (notFace_of_selects (args := #[]) (mvT hZ wo35)) (mvT hZ wo35) (mvT hZ wo34) (by decide) (backOf (W := 0) (rm3 l Z a0 hw [] b350 lv s_FIRST_LEVEL (1 : Int32) (T371.heap) n0 f377 hq371_0 f375) hZ wo36 wo9 (by decide) (by decide)) q376a q376c (g := (mkF m 140 #[iv p0_0, iv p0_1, iv p0_2, iv p0_3, iv (1 : Int32), rv s_FIRST_LEVEL, rv s_DENY, iv lv, iv (0 : Int32), rv b350] [(.int lv), (.ref b350)])) rfl (by rw [hml]; rfl) (Steps.refl _) (argsL := [(.int lv)]) (rest := []) (lenOf pd_1 rfl) rfl (by show 2 * 0 + _ ≤ _; exact Nat.le_of_eq rfl) (hb hby at_140) (fun _ _ => ⟨rfl, rfl, (by decide : 3 + 0 ≤ _), (by decide : 12 + 0 ≤ _)⟩)
          dsimp only [Pt.U, Pt.locs, Pt.cells, Pt.slots] at X376 l376 y376 z376 st376 hQ376
          rw [l376, y376, z376] at X376
          obtain ⟨rfl, N376q, K376q⟩ := hQ376
          have N379 := Fr.app N373 N376q
          have q380 : (if (1 : Int32) < lv then (0 : Int32) else (1 : Int32)) = (0 : Int32) := if_pos hc104_348
          have f381 := (Nat.le_trans K364 K371q.1)
          obtain ⟨fs, hr, hrun, hended, -, hW1, hW2, hW3⟩ := X376.leaveW S364 (by rw [K376q]; exact f381) (v := some (.int (1 : Int32))) (fun h => by rw [Bd.returns] at h; cases h)
          refine ⟨_, _, pre363 _ ?_, hrun, hended, _, _, rfl, ?_, hW1, hW2, hW3.mono (by decide) (by decide)⟩
          · show Steps p.tables e below (T350.setTop (mkF m 124 #[iv p0_0, iv p0_1, iv p0_2, iv p0_3, iv (1 : Int32), rv s_FIRST_LEVEL, rv s_DENY, iv lv, iv (0 : Int32), .unset] [(.ref b350), (.ref b350)])) _
            refine st364 _ ?_
            show Steps p.tables e below (T364.setTop (mkF m 126 #[iv p0_0, iv p0_1, iv p0_2, iv p0_3, iv (1 : Int32), rv s_FIRST_LEVEL, rv s_DENY, iv lv, iv (0 : Int32), .unset] [(.ref sa364), (.ref b350), (.ref b350)])) _
            refine XS.aconstNull X364.here hx rfl (hb hby at_126) ?_
            show Steps p.tables e below (T364.setTop (mkF m 127 #[iv p0_0, iv p0_1, iv p0_2, iv p0_3, iv (1 : Int32), rv s_FIRST_LEVEL, rv s_DENY, iv lv, iv (0 : Int32), .unset] [.null, (.ref sa364), (.ref b350), (.ref b350)])) _
            refine XS.aload X364.here hx rfl (hb hby at_127) rfl rfl ?_
            show Steps p.tables e below (T364.setTop (mkF m 129 #[iv p0_0, iv p0_1, iv p0_2, iv p0_3, iv (1 : Int32), rv s_FIRST_LEVEL, rv s_DENY, iv lv, iv (0 : Int32), .unset] [(.ref s_DENY), .null, (.ref sa364), (.ref b350), (.ref b350)])) _
            refine XS.aload X364.here hx rfl (hb hby at_129) rfl rfl ?_
            show Steps p.tables e below (T364.setTop (mkF m 131 #[iv p0_0, iv p0_1, iv p0_2, iv p0_3, iv (1 : Int32), rv s_FIRST_LEVEL, rv s_DENY, iv lv, iv (0 : Int32), .unset] [(.ref s_FIRST_LEVEL), (.ref s_DENY), .null, (.ref sa364), (.ref b350), (.ref b350)])) _
            refine st371.trans ?_
            show Steps p.tables e below (T371.setTop (mkF m 134 #[iv p0_0, iv p0_1, iv p0_2, iv p0_3, iv (1 : Int32), rv s_FIRST_LEVEL, rv s_DENY, iv lv, iv (0 : Int32), .unset] [(.ref b350)])) _
            refine XS.astore X371.here hx rfl (hb hby at_134) rfl rfl (l' := #[iv p0_0, iv p0_1, iv p0_2, iv p0_3, iv (1 : Int32), rv s_FIRST_LEVEL, rv s_DENY, iv lv, iv (0 : Int32), rv b350]) rfl ?_
            show Steps p.tables e below (T371.setTop (mkF m 136 #[iv p0_0, iv p0_1, iv p0_2, iv p0_3, iv (1 : Int32), rv s_FIRST_LEVEL, rv s_DENY, iv lv, iv (0 : Int32), rv b350] [])) _
            refine XS.aload X371.here hx rfl (hb hby at_136) rfl rfl ?_
            show Steps p.tables e below (T371.setTop (mkF m 138 #[iv p0_0, iv p0_1, iv p0_2, iv p0_3, iv (1 : Int32), rv s_FIRST_LEVEL, rv s_DENY, iv lv, iv (0 : Int32), rv b350] [(.ref b350)])) _
            refine XS.iload X371.here hx rfl (hb hby at_138) rfl ?_
            show Steps p.tables e below (T371.setTop (mkF m 140 #[iv p0_0, iv p0_1, iv p0_2, iv p0_3, iv (1 : Int32), rv s_FIRST_LEVEL, rv s_DENY, iv lv, iv (0 : Int32), rv b350] [(.int lv), (.ref b350)])) _
            refine st376.trans ?_
            rw [q380]
            show Steps p.tables e below (T376.setTop (mkF m 143 #[iv p0_0, iv p0_1, iv p0_2, iv p0_3, iv (1 : Int32), rv s_FIRST_LEVEL, rv s_DENY, iv lv, iv (0 : Int32), rv b350] [(.int (0 : Int32))])) _
            show Steps p.tables e below (T376.setTop (mkF m 143 #[iv p0_0, iv p0_1, iv p0_2, iv p0_3, iv (1 : Int32), rv s_FIRST_LEVEL, rv s_DENY, iv lv, iv (0 : Int32), rv b350] [(.int (0 : Int32))])) _
            refine XS.iload X376.here hx rfl (hb hby at_143) rfl ?_
            show Steps p.tables e below (T376.setTop (mkF m 145 #[iv p0_0, iv p0_1, iv p0_2, iv p0_3, iv (1 : Int32), rv s_FIRST_LEVEL, rv s_DENY, iv lv, iv (0 : Int32), rv b350] [(.int (0 : Int32)), (.int (0 : Int32))])) _
            refine XS.icmpNo X376.here hx rfl (hb hby at_145) rfl (teq (by decide : (0 : Int32) = (0 : Int32))).2 ?_
            show Steps p.tables e below (T376.setTop (mkF m 148 #[iv p0_0, iv p0_1, iv p0_2, iv p0_3, iv (1 : Int32), rv s_FIRST_LEVEL, rv s_DENY, iv lv, iv (0 : Int32), rv b350] [])) _
            refine XS.iconst X376.here hx rfl (hb hby at_148) ?_
            show Steps p.tables e below (T376.setTop (mkF m 149 #[iv p0_0, iv p0_1, iv p0_2, iv p0_3, iv (1 : Int32), rv s_FIRST_LEVEL, rv s_DENY, iv lv, iv (0 : Int32), rv b350] [(.int (1 : Int32))])) _
            refine XS.goto X376.here hx rfl (pc0 := 149) (pc' := 153) rfl (hb hby at_149) (by decide) (by decide) ?_
            show Steps p.tables e below (T376.setTop (mkF m 153 #[iv p0_0, iv p0_1, iv p0_2, iv p0_3, iv (1 : Int32), rv s_FIRST_LEVEL, rv s_DENY, iv lv, iv (0 : Int32), rv b350] [(.int (1 : Int32))])) _
            exact retN X376 hx (t := .boolean) Bd.returns (by simp) (hb hby at_153) hr
          · show Q_rm0 Z _ _ _ _ _ _ _ _ _ h0 n0 _ T376.heap _
            rw [K376q]
            exact ⟨rfl, N379, (K374)⟩
        · skip
          obtain ⟨T382, h382, X382, e382, E382, A382, D382, -, st382⟩ := newO X279 hx hZ hown wo7 wo8 wo9 e279 (g := (mkF m 120 #[iv p0_0, iv p0_1, iv p0_2, iv p0_3, iv (1 : Int32), rv s_FIRST_LEVEL, rv s_DENY, iv lv, iv (1 : Int32), .unset] [])) rfl (hb hby at_120) (by decide) (by decide)
          obtain ⟨b382, gg382⟩ : ∃ z, z = h0.size := ⟨_, rfl⟩
          rw [← gg382] at A382 D382 st382
          have ne383 : s_NO_PROP ≠ b382 := Nat.ne_of_lt (Nat.lt_of_lt_of_le pf_E_s_NO_PROP.lt (Nat.le_of_eq gg382.symm))
          have ne384 : s_GRANT ≠ b382 := Nat.ne_of_lt (Nat.lt_of_lt_of_le pf_E_s_GRANT.lt (Nat.le_of_eq gg382.symm))
          have ne385 : s_FIRST_LEVEL ≠ b382 := Nat.ne_of_lt (Nat.lt_of_lt_of_le pf_E_s_FIRST_LEVEL.lt (Nat.le_of_eq gg382.symm))
          have ne386 : s_DENY ≠ b382 := Nat.ne_of_lt (Nat.lt_of_lt_of_le pf_E_s_DENY.lt (Nat.le_of_eq gg382.symm))
          have ne387 : s_CASCADE ≠ b382 := Nat.ne_of_lt (Nat.lt_of_lt_of_le pf_E_s_CASCADE.lt (Nat.le_of_eq gg382.symm))
          have g388 : n0 ≤ b382 := Nat.le_trans Z0 (Nat.le_of_eq gg382.symm)
          have bz389 : h0.size ≤ b382 := Nat.le_trans (Keep.refl h0 []).1 (Nat.le_of_eq gg382.symm)
          have K390 : Keep h0 h382 [] := (Keep.refl h0 []).ext E382
          have f391 : Fld Z h382 b382 "com/example/arbiter/arbiter/NodeRule" "path" "Ljava/lang/String;" .null := D382 (Or.inr wo25) (ty := (.object "java/lang/String")) (by decide)
          have f392 : Fld Z h382 b382 "com/example/arbiter/arbiter/NodeRule" "operation" "Lcom/example/arbiter/arbiter/DocumentOperation;" .null := D382 (Or.inr wo27) (ty := (.object "com/example/arbiter/arbiter/DocumentOperation")) (by decide)
          have f393 : Fld Z h382 b382 "com/example/arbiter/arbiter/NodeRule" "sign" "Lcom/example/arbiter/arbiter/NodeRule$Sign;" .null := D382 (Or.inr wo29) (ty := (.object "com/example/arbiter/arbiter/NodeRule$Sign")) (by decide)
          have f394 : Fld Z h382 b382 "com/example/arbiter/arbiter/NodeRule" "propagation" "Lcom/example/arbiter/arbiter/NodeRule$Propagation;" .null := D382 (Or.inr wo31) (ty := (.object "com/example/arbiter/arbiter/NodeRule$Propagation")) (by decide)
          have pre395 : ∀ t, Steps p.tables e below (T382.setTop (mkF m 124 #[iv p0_0, iv p0_1, iv p0_2, iv p0_3, iv (1 : Int32), rv s_FIRST_LEVEL, rv s_DENY, iv lv, iv (1 : Int32), .unset] [(.ref b382), (.ref b382)])) t → Steps p.tables e below (s₁.setTop (entryFrame m #[(.int p0_0), (.int p0_1), (.int p0_2), (.int p0_3)] maxLocals)) t := by
            intro t_ k_
            refine pre349 _ ?_
            show Steps p.tables e below (T279.setTop (mkF m 104 #[iv p0_0, iv p0_1, iv p0_2, iv p0_3, iv (1 : Int32), rv s_FIRST_LEVEL, rv s_DENY, iv lv, .unset, .unset] [(.int (1 : Int32)), (.int lv)])) _
            refine XS.icmpNo X279.here hx rfl (hb hby at_104) rfl (flt hc104_348).2.2.1 ?_
            show Steps p.tables e below (T279.setTop (mkF m 107 #[iv p0_0, iv p0_1, iv p0_2, iv p0_3, iv (1 : Int32), rv s_FIRST_LEVEL, rv s_DENY, iv lv, .unset, .unset] [])) _
            refine XS.iconst X279.here hx rfl (hb hby at_107) ?_
            show Steps p.tables e below (T279.setTop (mkF m 108 #[iv p0_0, iv p0_1, iv p0_2, iv p0_3, iv (1 : Int32), rv s_FIRST_LEVEL, rv s_DENY, iv lv, .unset, .unset] [(.int (1 : Int32))])) _
            refine XS.goto X279.here hx rfl (pc0 := 108) (pc' := 112) rfl (hb hby at_108) (by decide) (by decide) ?_
            show Steps p.tables e below (T279.setTop (mkF m 112 #[iv p0_0, iv p0_1, iv p0_2, iv p0_3, iv (1 : Int32), rv s_FIRST_LEVEL, rv s_DENY, iv lv, .unset, .unset] [(.int (1 : Int32))])) _
            refine XS.istore X279.here hx rfl (hb hby at_112) rfl (l' := #[iv p0_0, iv p0_1, iv p0_2, iv p0_3, iv (1 : Int32), rv s_FIRST_LEVEL, rv s_DENY, iv lv, iv (1 : Int32), .unset]) rfl ?_
            show Steps p.tables e below (T279.setTop (mkF m 114 #[iv p0_0, iv p0_1, iv p0_2, iv p0_3, iv (1 : Int32), rv s_FIRST_LEVEL, rv s_DENY, iv lv, iv (1 : Int32), .unset] [])) _
            refine XS.goto X279.here hx rfl (pc0 := 114) (pc' := 120) rfl (hb hby at_114) (by decide) (by decide) ?_
            show Steps p.tables e below (T279.setTop (mkF m 120 #[iv p0_0, iv p0_1, iv p0_2, iv p0_3, iv (1 : Int32), rv s_FIRST_LEVEL, rv s_DENY, iv lv, iv (1 : Int32), .unset] [])) _
            refine st382 _ ?_
            show Steps p.tables e below (T382.setTop (mkF m 123 #[iv p0_0, iv p0_1, iv p0_2, iv p0_3, iv (1 : Int32), rv s_FIRST_LEVEL, rv s_DENY, iv lv, iv (1 : Int32), .unset] [(.ref b382)])) _
            refine XS.dup X382.here hx rfl (hb hby at_123) rfl rfl ?_
            exact k_
          obtain ⟨sa396, T396, h396, k396, X396, e396, E396, S396, K396, hZ, hown, st396⟩ := ldcS (s := s) (vm0 := s.vm) X382 hx hZ hown wo10 (fun d hd => hw d ((by decide +kernel : ∀ d ∈ Bundle.stringAtoms, d ∈ tables_1) d hd)) e382 ((State.WarmedH.refl s).since 0) (Nat.zero_le _) (g := (mkF m 124 #[iv p0_0, iv p0_1, iv p0_2, iv p0_3, iv (1 : Int32), rv s_FIRST_LEVEL, rv s_DENY, iv lv, iv (1 : Int32), .unset] [(.ref b382), (.ref b382)])) rfl (hb hby at_124) (n := 4) (by decide) (by decide) (by decide) (by decide)
          have K397 : Keep h0 h396 [] := (K390).ext E396
          have f398 := (A382.ext E396)
          have f399 := (f391.ext E396)
          have f400 := (f392.ext E396)
          have f401 := (f393.ext E396)
          have f402 := (f394.ext E396)
          have f404 := (Nat.le_trans (Nat.le_trans Z0 E382.1) E396.1)
          obtain ⟨_, _, ⟨T403, L403, k403, n403⟩, -, X403, ⟨Lc403, hQ403, l403, y403, z403⟩, st403⟩ := X396.specialBack hx (y := MN1) rfl hown (mvT hZ wo18) (mvT hZ wo19) (mvT hZ wo20) (by decide) (backOf (W := 1) (rm1 l Z a0 hw [] b382 sa396 s_DENY s_FIRST_LEVEL h396 n0 f404 f398 g388 f399 f400 f401 f402) hZ wo20 wo9 (by decide) (by decide)) (g := (mkF m 131 #[iv p0_0, iv p0_1, iv p0_2, iv p0_3, iv (1 : Int32), rv s_FIRST_LEVEL, rv s_DENY, iv lv, iv (1 : Int32), .unset] [(.ref s_FIRST_LEVEL), (.ref s_DENY), .null, (.ref sa396), (.ref b382), (.ref b382)])) rfl (by rw [hml]; rfl) (Steps.refl _) (a := b382) (argsL := [(.ref sa396), .null, (.ref s_DENY), (.ref s_FIRST_LEVEL)]) (rest := [(.ref b382)]) (lenOf pd_2 rfl) rfl (by show 2 * 0 + _ ≤ _; exact Nat.le_of_eq rfl) (hb hby at_131) (fun _ _ => ⟨rfl, e396, (by decide : 3 + 0 ≤ _), (by decide : 12 + 0 ≤ _)⟩)
          dsimp only [Pt.U, Pt.locs, Pt.cells, Pt.slots] at X403 l403 y403 z403 st403 hQ403
          rw [l403, y403, z403] at X403
          obtain ⟨rfl, N403q, K403q, hq403_0⟩ := hQ403
          have N405 := Fr.app N0 N403q
          have K406 : Keep h0 T403.heap [] := (K397).trans K403q (allS (P := fun x => x ∈ [] ∨ h0.size ≤ x) (Or.inr bz389) all0)
          have f407 := (((pf_F_s_FIRST_LEVEL_levels.ext E382).ext E396).keep K403q (ninS ne385 nin0))
          have f409 := (Nat.le_trans f404 K403q.1)
          have f410 := (f398.keep K403q)
          obtain ⟨cq408, kq408, q408a, q408b, q408c⟩ := isOf hZ rfl f410
          obtain ⟨_, _, ⟨T408, L408, k408, n408⟩, -, X408, ⟨Lc408, hQ408, l408, y408, z408⟩, st408⟩ := X403.virtualBack hx (y := MN3) (z := MN3) hown (mvT hZ wo32) (mvT hZ wo33) (notFace_of_selects (args := #[]) (mvT hZ wo35)) (mvT hZ wo35) (mvT hZ wo34) (by decide) (backOf (W := 0) (rm3 l Z a0 hw [] b382 lv s_FIRST_LEVEL (1 : Int32) (T403.heap) n0 f409 hq403_0 f407) hZ wo36 wo9 (by decide) (by decide)) q408a q408c (g := (mkF m 140 #[iv p0_0, iv p0_1, iv p0_2, iv p0_3, iv (1 : Int32), rv s_FIRST_LEVEL, rv s_DENY, iv lv, iv (1 : Int32), rv b382] [(.int lv), (.ref b382)])) rfl (by rw [hml]; rfl) (Steps.refl _) (argsL := [(.int lv)]) (rest := []) (lenOf pd_1 rfl) rfl (by show 2 * 0 + _ ≤ _; exact Nat.le_of_eq rfl) (hb hby at_140) (fun _ _ => ⟨rfl, rfl, (by decide : 3 + 0 ≤ _), (by decide : 12 + 0 ≤ _)⟩)
          dsimp only [Pt.U, Pt.locs, Pt.cells, Pt.slots] at X408 l408 y408 z408 st408 hQ408
          rw [l408, y408, z408] at X408
          obtain ⟨rfl, N408q, K408q⟩ := hQ408
          have N411 := Fr.app N405 N408q
          have q412 : (if (1 : Int32) < lv then (0 : Int32) else (1 : Int32)) = (1 : Int32) := if_neg hc104_348
          have f413 := (Nat.le_trans K396 K403q.1)
          obtain ⟨fs, hr, hrun, hended, -, hW1, hW2, hW3⟩ := X408.leaveW S396 (by rw [K408q]; exact f413) (v := some (.int (1 : Int32))) (fun h => by rw [Bd.returns] at h; cases h)
          refine ⟨_, _, pre395 _ ?_, hrun, hended, _, _, rfl, ?_, hW1, hW2, hW3.mono (by decide) (by decide)⟩
          · show Steps p.tables e below (T382.setTop (mkF m 124 #[iv p0_0, iv p0_1, iv p0_2, iv p0_3, iv (1 : Int32), rv s_FIRST_LEVEL, rv s_DENY, iv lv, iv (1 : Int32), .unset] [(.ref b382), (.ref b382)])) _
            refine st396 _ ?_
            show Steps p.tables e below (T396.setTop (mkF m 126 #[iv p0_0, iv p0_1, iv p0_2, iv p0_3, iv (1 : Int32), rv s_FIRST_LEVEL, rv s_DENY, iv lv, iv (1 : Int32), .unset] [(.ref sa396), (.ref b382), (.ref b382)])) _
            refine XS.aconstNull X396.here hx rfl (hb hby at_126) ?_
            show Steps p.tables e below (T396.setTop (mkF m 127 #[iv p0_0, iv p0_1, iv p0_2, iv p0_3, iv (1 : Int32), rv s_FIRST_LEVEL, rv s_DENY, iv lv, iv (1 : Int32), .unset] [.null, (.ref sa396), (.ref b382), (.ref b382)])) _
            refine XS.aload X396.here hx rfl (hb hby at_127) rfl rfl ?_
            show Steps p.tables e below (T396.setTop (mkF m 129 #[iv p0_0, iv p0_1, iv p0_2, iv p0_3, iv (1 : Int32), rv s_FIRST_LEVEL, rv s_DENY, iv lv, iv (1 : Int32), .unset] [(.ref s_DENY), .null, (.ref sa396), (.ref b382), (.ref b382)])) _
            refine XS.aload X396.here hx rfl (hb hby at_129) rfl rfl ?_
            show Steps p.tables e below (T396.setTop (mkF m 131 #[iv p0_0, iv p0_1, iv p0_2, iv p0_3, iv (1 : Int32), rv s_FIRST_LEVEL, rv s_DENY, iv lv, iv (1 : Int32), .unset] [(.ref s_FIRST_LEVEL), (.ref s_DENY), .null, (.ref sa396), (.ref b382), (.ref b382)])) _
            refine st403.trans ?_
            show Steps p.tables e below (T403.setTop (mkF m 134 #[iv p0_0, iv p0_1, iv p0_2, iv p0_3, iv (1 : Int32), rv s_FIRST_LEVEL, rv s_DENY, iv lv, iv (1 : Int32), .unset] [(.ref b382)])) _
            refine XS.astore X403.here hx rfl (hb hby at_134) rfl rfl (l' := #[iv p0_0, iv p0_1, iv p0_2, iv p0_3, iv (1 : Int32), rv s_FIRST_LEVEL, rv s_DENY, iv lv, iv (1 : Int32), rv b382]) rfl ?_
            show Steps p.tables e below (T403.setTop (mkF m 136 #[iv p0_0, iv p0_1, iv p0_2, iv p0_3, iv (1 : Int32), rv s_FIRST_LEVEL, rv s_DENY, iv lv, iv (1 : Int32), rv b382] [])) _
            refine XS.aload X403.here hx rfl (hb hby at_136) rfl rfl ?_
            show Steps p.tables e below (T403.setTop (mkF m 138 #[iv p0_0, iv p0_1, iv p0_2, iv p0_3, iv (1 : Int32), rv s_FIRST_LEVEL, rv s_DENY, iv lv, iv (1 : Int32), rv b382] [(.ref b382)])) _
            refine XS.iload X403.here hx rfl (hb hby at_138) rfl ?_
            show Steps p.tables e below (T403.setTop (mkF m 140 #[iv p0_0, iv p0_1, iv p0_2, iv p0_3, iv (1 : Int32), rv s_FIRST_LEVEL, rv s_DENY, iv lv, iv (1 : Int32), rv b382] [(.int lv), (.ref b382)])) _
            refine st408.trans ?_
            rw [q412]
            show Steps p.tables e below (T408.setTop (mkF m 143 #[iv p0_0, iv p0_1, iv p0_2, iv p0_3, iv (1 : Int32), rv s_FIRST_LEVEL, rv s_DENY, iv lv, iv (1 : Int32), rv b382] [(.int (1 : Int32))])) _
            show Steps p.tables e below (T408.setTop (mkF m 143 #[iv p0_0, iv p0_1, iv p0_2, iv p0_3, iv (1 : Int32), rv s_FIRST_LEVEL, rv s_DENY, iv lv, iv (1 : Int32), rv b382] [(.int (1 : Int32))])) _
            refine XS.iload X408.here hx rfl (hb hby at_143) rfl ?_
            show Steps p.tables e below (T408.setTop (mkF m 145 #[iv p0_0, iv p0_1, iv p0_2, iv p0_3, iv (1 : Int32), rv s_FIRST_LEVEL, rv s_DENY, iv lv, iv (1 : Int32), rv b382] [(.int (1 : Int32)), (.int (1 : Int32))])) _
            refine XS.icmpNo X408.here hx rfl (hb hby at_145) rfl (teq (by decide : (1 : Int32) = (1 : Int32))).2 ?_
            show Steps p.tables e below (T408.setTop (mkF m 148 #[iv p0_0, iv p0_1, iv p0_2, iv p0_3, iv (1 : Int32), rv s_FIRST_LEVEL, rv s_DENY, iv lv, iv (1 : Int32), rv b382] [])) _
            refine XS.iconst X408.here hx rfl (hb hby at_148) ?_
            show Steps p.tables e below (T408.setTop (mkF m 149 #[iv p0_0, iv p0_1, iv p0_2, iv p0_3, iv (1 : Int32), rv s_FIRST_LEVEL, rv s_DENY, iv lv, iv (1 : Int32), rv b382] [(.int (1 : Int32))])) _
            refine XS.goto X408.here hx rfl (pc0 := 149) (pc' := 153) rfl (hb hby at_149) (by decide) (by decide) ?_
            show Steps p.tables e below (T408.setTop (mkF m 153 #[iv p0_0, iv p0_1, iv p0_2, iv p0_3, iv (1 : Int32), rv s_FIRST_LEVEL, rv s_DENY, iv lv, iv (1 : Int32), rv b382] [(.int (1 : Int32))])) _
            exact retN X408 hx (t := .boolean) Bd.returns (by simp) (hb hby at_153) hr
          · show Q_rm0 Z _ _ _ _ _ _ _ _ _ h0 n0 _ T408.heap _
            rw [K408q]
            exact ⟨rfl, N411, (K406)⟩
    · skip
      obtain ⟨T414, X414, e414, st414⟩ := getS2 X276 hx hZ hown (host := "") (Or.inl wo4) Via.refl e276 (pf_S_com_example_arbiter_arbiter_NodeRule_Sign_GRANT.ext pf_O.2) (g := (mkF m 46 #[iv p0_0, iv p0_1, iv p0_2, iv p0_3, iv (1 : Int32), rv s_FIRST_LEVEL, .unset, .unset, .unset, .unset] [])) rfl (hb hby at_46)
      have pre416 : ∀ t, Steps p.tables e below (T414.setTop (mkF m 60 #[iv p0_0, iv p0_1, iv p0_2, iv p0_3, iv (1 : Int32), rv s_FIRST_LEVEL, rv s_GRANT, .unset, .unset, .unset] [(.int (p0_3 &&& (1 : Int32)))])) t → Steps p.tables e below (s₁.setTop (entryFrame m #[(.int p0_0), (.int p0_1), (.int p0_2), (.int p0_3)] maxLocals)) t := by
        intro t_ k_
        refine pre278 _ ?_
        show Steps p.tables e below (T276.setTop (mkF m 43 #[iv p0_0, iv p0_1, iv p0_2, iv p0_3, iv (1 : Int32), rv s_FIRST_LEVEL, .unset, .unset, .unset, .unset] [(.int (p0_1 &&& (1 : Int32)))])) _
        refine XS.ifNo X276.here hx rfl (hb hby at_43) rfl ((if0 _ _).trans (feq hc43_277).1) ?_
        show Steps p.tables e below (T276.setTop (mkF m 46 #[iv p0_0, iv p0_1, iv p0_2, iv p0_3, iv (1 : Int32), rv s_FIRST_LEVEL, .unset, .unset, .unset, .unset] [])) _
        refine st414 _ ?_
        show Steps p.tables e below (T414.setTop (mkF m 49 #[iv p0_0, iv p0_1, iv p0_2, iv p0_3, iv (1 : Int32), rv s_FIRST_LEVEL, .unset, .unset, .unset, .unset] [(.ref s_GRANT)])) _
        refine XS.goto X414.here hx rfl (pc0 := 49) (pc' := 55) rfl (hb hby at_49) (by decide) (by decide) ?_
        show Steps p.tables e below (T414.setTop (mkF m 55 #[iv p0_0, iv p0_1, iv p0_2, iv p0_3, iv (1 : Int32), rv s_FIRST_LEVEL, .unset, .unset, .unset, .unset] [(.ref s_GRANT)])) _
        refine XS.astore X414.here hx rfl (hb hby at_55) rfl rfl (l' := #[iv p0_0, iv p0_1, iv p0_2, iv p0_3, iv (1 : Int32), rv s_FIRST_LEVEL, rv s_GRANT, .unset, .unset, .unset]) rfl ?_
        show Steps p.tables e below (T414.setTop (mkF m 57 #[iv p0_0, iv p0_1, iv p0_2, iv p0_3, iv (1 : Int32), rv s_FIRST_LEVEL, rv s_GRANT, .unset, .unset, .unset] [])) _
        refine XS.iloadN X414.here hx rfl (hb hby at_57) rfl ?_
        show Steps p.tables e below (T414.setTop (mkF m 58 #[iv p0_0, iv p0_1, iv p0_2, iv p0_3, iv (1 : Int32), rv s_FIRST_LEVEL, rv s_GRANT, .unset, .unset, .unset] [(.int p0_3)])) _
        refine XS.iconst X414.here hx rfl (hb hby at_58) ?_
        show Steps p.tables e below (T414.setTop (mkF m 59 #[iv p0_0, iv p0_1, iv p0_2, iv p0_3, iv (1 : Int32), rv s_FIRST_LEVEL, rv s_GRANT, .unset, .unset, .unset] [(.int (1 : Int32)), (.int p0_3)])) _
        refine XS.iand X414.here hx rfl (hb hby at_59) rfl ?_
        exact k_
      by_cases hc60_415 : (p0_3 &&& (1 : Int32)) = (0 : Int32)
      · skip
        obtain ⟨lv, h_lv⟩ : ∃ z : Int32, z = (p0_2 &&& (2147483647 : Int32)) := ⟨_, rfl⟩
        have hlv : 0 ≤ lv.toInt := by rw [h_lv]; first | exact own_3 _ | exact own_m _
        have pre418 : ∀ t, Steps p.tables e below (T414.setTop (mkF m 104 #[iv p0_0, iv p0_1, iv p0_2, iv p0_3, iv (1 : Int32), rv s_FIRST_LEVEL, rv s_GRANT, iv lv, .unset, .unset] [(.int (1 : Int32)), (.int lv)])) t → Steps p.tables e below (s₁.setTop (entryFrame m #[(.int p0_0), (.int p0_1), (.int p0_2), (.int p0_3)] maxLocals)) t := by
          intro t_ k_
          refine pre416 _ ?_
          show Steps p.tables e below (T414.setTop (mkF m 60 #[iv p0_0, iv p0_1, iv p0_2, iv p0_3, iv (1 : Int32), rv s_FIRST_LEVEL, rv s_GRANT, .unset, .unset, .unset] [(.int (p0_3 &&& (1 : Int32)))])) _
          refine XS.ifYes X414.here hx rfl (pc0 := 60) (pc' := 69) rfl (hb hby at_60) rfl ((if0 _ _).trans (teq hc60_415).1) (by decide) (by decide) ?_
          show Steps p.tables e below (T414.setTop (mkF m 69 #[iv p0_0, iv p0_1, iv p0_2, iv p0_3, iv (1 : Int32), rv s_FIRST_LEVEL, rv s_GRANT, .unset, .unset, .unset] [])) _
          refine XS.iloadN X414.here hx rfl (hb hby at_69) rfl ?_
          show Steps p.tables e below (T414.setTop (mkF m 70 #[iv p0_0, iv p0_1, iv p0_2, iv p0_3, iv (1 : Int32), rv s_FIRST_LEVEL, rv s_GRANT, .unset, .unset, .unset] [(.int p0_2)])) _
          refine X414.ldcInt hx hown (mvT hZ wo0) (g := (mkF m 70 #[iv p0_0, iv p0_1, iv p0_2, iv p0_3, iv (1 : Int32), rv s_FIRST_LEVEL, rv s_GRANT, .unset, .unset, .unset] [(.int p0_2)])) rfl (hb hby at_70) _ ?_
          show Steps p.tables e below (T414.setTop (mkF m 72 #[iv p0_0, iv p0_1, iv p0_2, iv p0_3, iv (1 : Int32), rv s_FIRST_LEVEL, rv s_GRANT, .unset, .unset, .unset] [(.int (2147483647 : Int32)), (.int p0_2)])) _
          refine XS.iand X414.here hx rfl (hb hby at_72) rfl ?_
          show Steps p.tables e below (T414.setTop (mkF m 73 #[iv p0_0, iv p0_1, iv p0_2, iv p0_3, iv (1 : Int32), rv s_FIRST_LEVEL, rv s_GRANT, .unset, .unset, .unset] [(.int (p0_2 &&& (2147483647 : Int32)))])) _
          refine XS.istore X414.here hx rfl (hb hby at_73) rfl (l' := #[iv p0_0, iv p0_1, iv p0_2, iv p0_3, iv (1 : Int32), rv s_FIRST_LEVEL, rv s_GRANT, iv (p0_2 &&& (2147483647 : Int32)), .unset, .unset]) rfl ?_
          rw [← h_lv]
          show Steps p.tables e below (T414.setTop (mkF m 75 #[iv p0_0, iv p0_1, iv p0_2, iv p0_3, iv (1 : Int32), rv s_FIRST_LEVEL, rv s_GRANT, iv lv, .unset, .unset] [])) _
          show Steps p.tables e below (T414.setTop (mkF m 75 #[iv p0_0, iv p0_1, iv p0_2, iv p0_3, iv (1 : Int32), rv s_FIRST_LEVEL, rv s_GRANT, iv lv, .unset, .unset] [])) _
          refine XS.iload X414.here hx rfl (hb hby at_75) rfl ?_
          show Steps p.tables e below (T414.setTop (mkF m 77 #[iv p0_0, iv p0_1, iv p0_2, iv p0_3, iv (1 : Int32), rv s_FIRST_LEVEL, rv s_GRANT, iv lv, .unset, .unset] [(.int (1 : Int32))])) _
          refine XS.ifYes X414.here hx rfl (pc0 := 77) (pc' := 95) rfl (hb hby at_77) rfl ((if0 _ _).trans (feq (by decide : ¬ ((1 : Int32) = (0 : Int32)))).2) (by decide) (by decide) ?_
          show Steps p.tables e below (T414.setTop (mkF m 95 #[iv p0_0, iv p0_1, iv p0_2, iv p0_3, iv (1 : Int32), rv s_FIRST_LEVEL, rv s_GRANT, iv lv, .unset, .unset] [])) _
          refine XS.iload X414.here hx rfl (hb hby at_95) rfl ?_
          show Steps p.tables e below (T414.setTop (mkF m 97 #[iv p0_0, iv p0_1, iv p0_2, iv p0_3, iv (1 : Int32), rv s_FIRST_LEVEL, rv s_GRANT, iv lv, .unset, .unset] [(.int (1 : Int32))])) _
          refine XS.iconst X414.here hx rfl (hb hby at_97) ?_
          show Steps p.tables e below (T414.setTop (mkF m 98 #[iv p0_0, iv p0_1, iv p0_2, iv p0_3, iv (1 : Int32), rv s_FIRST_LEVEL, rv s_GRANT, iv lv, .unset, .unset] [(.int (1 : Int32)), (.int (1 : Int32))])) _
          refine XS.icmpNo X414.here hx rfl (hb hby at_98) rfl (teq (by decide : (1 : Int32) = (1 : Int32))).2 ?_
          show Steps p.tables e below (T414.setTop (mkF m 101 #[iv p0_0, iv p0_1, iv p0_2, iv p0_3, iv (1 : Int32), rv s_FIRST_LEVEL, rv s_GRANT, iv lv, .unset, .unset] [])) _
          refine XS.iload X414.here hx rfl (hb hby at_101) rfl ?_
          show Steps p.tables e below (T414.setTop (mkF m 103 #[iv p0_0, iv p0_1, iv p0_2, iv p0_3, iv (1 : Int32), rv s_FIRST_LEVEL, rv s_GRANT, iv lv, .unset, .unset] [(.int lv)])) _
          refine XS.iconst X414.here hx rfl (hb hby at_103) ?_
          exact k_
        by_cases hc104_417 : (1 : Int32) < lv
        · skip
          obtain ⟨T419, h419, X419, e419, E419, A419, D419, -, st419⟩ := newO X414 hx hZ hown wo7 wo8 wo9 e414 (g := (mkF m 120 #[iv p0_0, iv p0_1, iv p0_2, iv p0_3, iv (1 : Int32), rv s_FIRST_LEVEL, rv s_GRANT, iv lv, iv (0 : Int32), .unset] [])) rfl (hb hby at_120) (by decide) (by decide)
          obtain ⟨b419, gg419⟩ : ∃ z, z = h0.size := ⟨_, rfl⟩
          rw [← gg419] at A419 D419 st419
          have ne420 : s_NO_PROP ≠ b419 := Nat.ne_of_lt (Nat.lt_of_lt_of_le pf_E_s_NO_PROP.lt (Nat.le_of_eq gg419.symm))
          have ne421 : s_GRANT ≠ b419 := Nat.ne_of_lt (Nat.lt_of_lt_of_le pf_E_s_GRANT.lt (Nat.le_of_eq gg419.symm))
          have ne422 : s_FIRST_LEVEL ≠ b419 := Nat.ne_of_lt (Nat.lt_of_lt_of_le pf_E_s_FIRST_LEVEL.lt (Nat.le_of_eq gg419.symm))
          have ne423 : s_DENY ≠ b419 := Nat.ne_of_lt (Nat.lt_of_lt_of_le pf_E_s_DENY.lt (Nat.le_of_eq gg419.symm))
          have ne424 : s_CASCADE ≠ b419 := Nat.ne_of_lt (Nat.lt_of_lt_of_le pf_E_s_CASCADE.lt (Nat.le_of_eq gg419.symm))
          have g425 : n0 ≤ b419 := Nat.le_trans Z0 (Nat.le_of_eq gg419.symm)
          have bz426 : h0.size ≤ b419 := Nat.le_trans (Keep.refl h0 []).1 (Nat.le_of_eq gg419.symm)
          have K427 : Keep h0 h419 [] := (Keep.refl h0 []).ext E419
          have f428 : Fld Z h419 b419 "com/example/arbiter/arbiter/NodeRule" "path" "Ljava/lang/String;" .null := D419 (Or.inr wo25) (ty := (.object "java/lang/String")) (by decide)
          have f429 : Fld Z h419 b419 "com/example/arbiter/arbiter/NodeRule" "operation" "Lcom/example/arbiter/arbiter/DocumentOperation;" .null := D419 (Or.inr wo27) (ty := (.object "com/example/arbiter/arbiter/DocumentOperation")) (by decide)
          have f430 : Fld Z h419 b419 "com/example/arbiter/arbiter/NodeRule" "sign" "Lcom/example/arbiter/arbiter/NodeRule$Sign;" .null := D419 (Or.inr wo29) (ty := (.object "com/example/arbiter/arbiter/NodeRule$Sign")) (by decide)
          have f431 : Fld Z h419 b419 "com/example/arbiter/arbiter/NodeRule" "propagation" "Lcom/example/arbiter/arbiter/NodeRule$Propagation;" .null := D419 (Or.inr wo31) (ty := (.object "com/example/arbiter/arbiter/NodeRule$Propagation")) (by decide)
          have pre432 : ∀ t, Steps p.tables e below (T419.setTop (mkF m 124 #[iv p0_0, iv p0_1, iv p0_2, iv p0_3, iv (1 : Int32), rv s_FIRST_LEVEL, rv s_GRANT, iv lv, iv (0 : Int32), .unset] [(.ref b419), (.ref b419)])) t → Steps p.tables e below (s₁.setTop (entryFrame m #[(.int p0_0), (.int p0_1), (.int p0_2), (.int p0_3)] maxLocals)) t := by
            intro t_ k_
            refine pre418 _ ?_
            show Steps p.tables e below (T414.setTop (mkF m 104 #[iv p0_0, iv p0_1, iv p0_2, iv p0_3, iv (1 : Int32), rv s_FIRST_LEVEL, rv s_GRANT, iv lv, .unset, .unset] [(.int (1 : Int32)), (.int lv)])) _
            refine XS.icmpYes X414.here hx rfl (pc0 := 104) (pc' := 111) rfl (hb hby at_104) rfl (tlt hc104_417).2.2.1 (by decide) (by decide) ?_
            show Steps p.tables e below (T414.setTop (mkF m 111 #[iv p0_0, iv p0_1, iv p0_2, iv p0_3, iv (1 : Int32), rv s_FIRST_LEVEL, rv s_GRANT, iv lv, .unset, .unset] [])) _
            refine XS.iconst X414.here hx rfl (hb hby at_111) ?_
            show Steps p.tables e below (T414.setTop (mkF m 112 #[iv p0_0, iv p0_1, iv p0_2, iv p0_3, iv (1 : Int32), rv s_FIRST_LEVEL, rv s_GRANT, iv lv, .unset, .unset] [(.int (0 : Int32))])) _
            refine XS.istore X414.here hx rfl (hb hby at_112) rfl (l' := #[iv p0_0, iv p0_1, iv p0_2, iv p0_3, iv (1 : Int32), rv s_FIRST_LEVEL, rv s_GRANT, iv lv, iv (0 : Int32), .unset]) rfl ?_
            show Steps p.tables e below (T414.setTop (mkF m 114 #[iv p0_0, iv p0_1, iv p0_2, iv p0_3, iv (1 : Int32), rv s_FIRST_LEVEL, rv s_GRANT, iv lv, iv (0 : Int32), .unset] [])) _
            refine XS.goto X414.here hx rfl (pc0 := 114) (pc' := 120) rfl (hb hby at_114) (by decide) (by decide) ?_
            show Steps p.tables e below (T414.setTop (mkF m 120 #[iv p0_0, iv p0_1, iv p0_2, iv p0_3, iv (1 : Int32), rv s_FIRST_LEVEL, rv s_GRANT, iv lv, iv (0 : Int32), .unset] [])) _
            refine st419 _ ?_
            show Steps p.tables e below (T419.setTop (mkF m 123 #[iv p0_0, iv p0_1, iv p0_2, iv p0_3, iv (1 : Int32), rv s_FIRST_LEVEL, rv s_GRANT, iv lv, iv (0 : Int32), .unset] [(.ref b419)])) _
            refine XS.dup X419.here hx rfl (hb hby at_123) rfl rfl ?_
            exact k_
          obtain ⟨sa433, T433, h433, k433, X433, e433, E433, S433, K433, hZ, hown, st433⟩ := ldcS (s := s) (vm0 := s.vm) X419 hx hZ hown wo10 (fun d hd => hw d ((by decide +kernel : ∀ d ∈ Bundle.stringAtoms, d ∈ tables_1) d hd)) e419 ((State.WarmedH.refl s).since 0) (Nat.zero_le _) (g := (mkF m 124 #[iv p0_0, iv p0_1, iv p0_2, iv p0_3, iv (1 : Int32), rv s_FIRST_LEVEL, rv s_GRANT, iv lv, iv (0 : Int32), .unset] [(.ref b419), (.ref b419)])) rfl (hb hby at_124) (n := 4) (by decide) (by decide) (by decide) (by decide)
          have K434 : Keep h0 h433 [] := (K427).ext E433
          have f435 := (A419.ext E433)
          have f436 := (f428.ext E433)
          have f437 := (f429.ext E433)
          have f438 := (f430.ext E433)
          have f439 := (f431.ext E433)
          have f441 := (Nat.le_trans (Nat.le_trans Z0 E419.1) E433.1)
          obtain ⟨_, _, ⟨T440, L440, k440, n440⟩, -, X440, ⟨Lc440, hQ440, l440, y440, z440⟩, st440⟩ := X433.specialBack hx (y := MN1) rfl hown (mvT hZ wo18) (mvT hZ wo19) (mvT hZ wo20) (by decide) (backOf (W := 1) (rm1 l Z a0 hw [] b419 sa433 s_GRANT s_FIRST_LEVEL h433 n0 f441 f435 g425 f436 f437 f438 f439) hZ wo20 wo9 (by decide) (by decide)) (g := (mkF m 131 #[iv p0_0, iv p0_1, iv p0_2, iv p0_3, iv (1 : Int32), rv s_FIRST_LEVEL, rv s_GRANT, iv lv, iv (0 : Int32), .unset] [(.ref s_FIRST_LEVEL), (.ref s_GRANT), .null, (.ref sa433), (.ref b419), (.ref b419)])) rfl (by rw [hml]; rfl) (Steps.refl _) (a := b419) (argsL := [(.ref sa433), .null, (.ref s_GRANT), (.ref s_FIRST_LEVEL)]) (rest := [(.ref b419)]) (lenOf pd_2 rfl) rfl (by show 2 * 0 + _ ≤ _; exact Nat.le_of_eq rfl) (hb hby at_131) (fun _ _ => ⟨rfl, e433, (by decide : 3 + 0 ≤ _), (by decide : 12 + 0 ≤ _)⟩)
          dsimp only [Pt.U, Pt.locs, Pt.cells, Pt.slots] at X440 l440 y440 z440 st440 hQ440
          rw [l440, y440, z440] at X440
          obtain ⟨rfl, N440q, K440q, hq440_0⟩ := hQ440
          have N442 := Fr.app N0 N440q
          have K443 : Keep h0 T440.heap [] := (K434).trans K440q (allS (P := fun x => x ∈ [] ∨ h0.size ≤ x) (Or.inr bz426) all0)
          have f444 := (((pf_F_s_FIRST_LEVEL_levels.ext E419).ext E433).keep K440q (ninS ne422 nin0))
          have f446 := (Nat.le_trans f441 K440q.1)
          have f447 := (f435.keep K440q)
          obtain ⟨cq445, kq445, q445a, q445b, q445c⟩ := isOf hZ rfl f447
          obtain ⟨_, _, ⟨T445, L445, k445, n445⟩, -, X445, ⟨Lc445, hQ445, l445, y445, z445⟩, st445⟩ := X440.virtualBack hx (y := MN3) (z := MN3) hown (mvT hZ wo32) (mvT hZ wo33) (notFace_of_selects (args := #[]) (mvT hZ wo35)) (mvT hZ wo35) (mvT hZ wo34) (by decide) (backOf (W := 0) (rm3 l Z a0 hw [] b419 lv s_FIRST_LEVEL (1 : Int32) (T440.heap) n0 f446 hq440_0 f444) hZ wo36 wo9 (by decide) (by decide)) q445a q445c (g := (mkF m 140 #[iv p0_0, iv p0_1, iv p0_2, iv p0_3, iv (1 : Int32), rv s_FIRST_LEVEL, rv s_GRANT, iv lv, iv (0 : Int32), rv b419] [(.int lv), (.ref b419)])) rfl (by rw [hml]; rfl) (Steps.refl _) (argsL := [(.int lv)]) (rest := []) (lenOf pd_1 rfl) rfl (by show 2 * 0 + _ ≤ _; exact Nat.le_of_eq rfl) (hb hby at_140) (fun _ _ => ⟨rfl, rfl, (by decide : 3 + 0 ≤ _), (by decide : 12 + 0 ≤ _)⟩)
          dsimp only [Pt.U, Pt.locs, Pt.cells, Pt.slots] at X445 l445 y445 z445 st445 hQ445
          rw [l445, y445, z445] at X445
          obtain ⟨rfl, N445q, K445q⟩ := hQ445
          have N448 := Fr.app N442 N445q
          have q449 : (if (1 : Int32) < lv then (0 : Int32) else (1 : Int32)) = (0 : Int32) := if_pos hc104_417
          have f450 := (Nat.le_trans K433 K440q.1)
          obtain ⟨fs, hr, hrun, hended, -, hW1, hW2, hW3⟩ := X445.leaveW S433 (by rw [K445q]; exact f450) (v := some (.int (1 : Int32))) (fun h => by rw [Bd.returns] at h; cases h)
          refine ⟨_, _, pre432 _ ?_, hrun, hended, _, _, rfl, ?_, hW1, hW2, hW3.mono (by decide) (by decide)⟩
          · show Steps p.tables e below (T419.setTop (mkF m 124 #[iv p0_0, iv p0_1, iv p0_2, iv p0_3, iv (1 : Int32), rv s_FIRST_LEVEL, rv s_GRANT, iv lv, iv (0 : Int32), .unset] [(.ref b419), (.ref b419)])) _
            refine st433 _ ?_
            show Steps p.tables e below (T433.setTop (mkF m 126 #[iv p0_0, iv p0_1, iv p0_2, iv p0_3, iv (1 : Int32), rv s_FIRST_LEVEL, rv s_GRANT, iv lv, iv (0 : Int32), .unset] [(.ref sa433), (.ref b419), (.ref b419)])) _
            refine XS.aconstNull X433.here hx rfl (hb hby at_126) ?_
            show Steps p.tables e below (T433.setTop (mkF m 127 #[iv p0_0, iv p0_1, iv p0_2, iv p0_3, iv (1 : Int32), rv s_FIRST_LEVEL, rv s_GRANT, iv lv, iv (0 : Int32), .unset] [.null, (.ref sa433), (.ref b419), (.ref b419)])) _
            refine XS.aload X433.here hx rfl (hb hby at_127) rfl rfl ?_
            show Steps p.tables e below (T433.setTop (mkF m 129 #[iv p0_0, iv p0_1, iv p0_2, iv p0_3, iv (1 : Int32), rv s_FIRST_LEVEL, rv s_GRANT, iv lv, iv (0 : Int32), .unset] [(.ref s_GRANT), .null, (.ref sa433), (.ref b419), (.ref b419)])) _
            refine XS.aload X433.here hx rfl (hb hby at_129) rfl rfl ?_
            show Steps p.tables e below (T433.setTop (mkF m 131 #[iv p0_0, iv p0_1, iv p0_2, iv p0_3, iv (1 : Int32), rv s_FIRST_LEVEL, rv s_GRANT, iv lv, iv (0 : Int32), .unset] [(.ref s_FIRST_LEVEL), (.ref s_GRANT), .null, (.ref sa433), (.ref b419), (.ref b419)])) _
            refine st440.trans ?_
            show Steps p.tables e below (T440.setTop (mkF m 134 #[iv p0_0, iv p0_1, iv p0_2, iv p0_3, iv (1 : Int32), rv s_FIRST_LEVEL, rv s_GRANT, iv lv, iv (0 : Int32), .unset] [(.ref b419)])) _
            refine XS.astore X440.here hx rfl (hb hby at_134) rfl rfl (l' := #[iv p0_0, iv p0_1, iv p0_2, iv p0_3, iv (1 : Int32), rv s_FIRST_LEVEL, rv s_GRANT, iv lv, iv (0 : Int32), rv b419]) rfl ?_
            show Steps p.tables e below (T440.setTop (mkF m 136 #[iv p0_0, iv p0_1, iv p0_2, iv p0_3, iv (1 : Int32), rv s_FIRST_LEVEL, rv s_GRANT, iv lv, iv (0 : Int32), rv b419] [])) _
            refine XS.aload X440.here hx rfl (hb hby at_136) rfl rfl ?_
            show Steps p.tables e below (T440.setTop (mkF m 138 #[iv p0_0, iv p0_1, iv p0_2, iv p0_3, iv (1 : Int32), rv s_FIRST_LEVEL, rv s_GRANT, iv lv, iv (0 : Int32), rv b419] [(.ref b419)])) _
            refine XS.iload X440.here hx rfl (hb hby at_138) rfl ?_
            show Steps p.tables e below (T440.setTop (mkF m 140 #[iv p0_0, iv p0_1, iv p0_2, iv p0_3, iv (1 : Int32), rv s_FIRST_LEVEL, rv s_GRANT, iv lv, iv (0 : Int32), rv b419] [(.int lv), (.ref b419)])) _
            refine st445.trans ?_
            rw [q449]
            show Steps p.tables e below (T445.setTop (mkF m 143 #[iv p0_0, iv p0_1, iv p0_2, iv p0_3, iv (1 : Int32), rv s_FIRST_LEVEL, rv s_GRANT, iv lv, iv (0 : Int32), rv b419] [(.int (0 : Int32))])) _
            show Steps p.tables e below (T445.setTop (mkF m 143 #[iv p0_0, iv p0_1, iv p0_2, iv p0_3, iv (1 : Int32), rv s_FIRST_LEVEL, rv s_GRANT, iv lv, iv (0 : Int32), rv b419] [(.int (0 : Int32))])) _
            refine XS.iload X445.here hx rfl (hb hby at_143) rfl ?_
            show Steps p.tables e below (T445.setTop (mkF m 145 #[iv p0_0, iv p0_1, iv p0_2, iv p0_3, iv (1 : Int32), rv s_FIRST_LEVEL, rv s_GRANT, iv lv, iv (0 : Int32), rv b419] [(.int (0 : Int32)), (.int (0 : Int32))])) _
            refine XS.icmpNo X445.here hx rfl (hb hby at_145) rfl (teq (by decide : (0 : Int32) = (0 : Int32))).2 ?_
            show Steps p.tables e below (T445.setTop (mkF m 148 #[iv p0_0, iv p0_1, iv p0_2, iv p0_3, iv (1 : Int32), rv s_FIRST_LEVEL, rv s_GRANT, iv lv, iv (0 : Int32), rv b419] [])) _
            refine XS.iconst X445.here hx rfl (hb hby at_148) ?_
            show Steps p.tables e below (T445.setTop (mkF m 149 #[iv p0_0, iv p0_1, iv p0_2, iv p0_3, iv (1 : Int32), rv s_FIRST_LEVEL, rv s_GRANT, iv lv, iv (0 : Int32), rv b419] [(.int (1 : Int32))])) _
            refine XS.goto X445.here hx rfl (pc0 := 149) (pc' := 153) rfl (hb hby at_149) (by decide) (by decide) ?_
            show Steps p.tables e below (T445.setTop (mkF m 153 #[iv p0_0, iv p0_1, iv p0_2, iv p0_3, iv (1 : Int32), rv s_FIRST_LEVEL, rv s_GRANT, iv lv, iv (0 : Int32), rv b419] [(.int (1 : Int32))])) _
            exact retN X445 hx (t := .boolean) Bd.returns (by simp) (hb hby at_153) hr
          · show Q_rm0 Z _ _ _ _ _ _ _ _ _ h0 n0 _ T445.heap _
            rw [K445q]
            exact ⟨rfl, N448, (K443)⟩
        · skip
          obtain ⟨T451, h451, X451, e451, E451, A451, D451, -, st451⟩ := newO X414 hx hZ hown wo7 wo8 wo9 e414 (g := (mkF m 120 #[iv p0_0, iv p0_1, iv p0_2, iv p0_3, iv (1 : Int32), rv s_FIRST_LEVEL, rv s_GRANT, iv lv, iv (1 : Int32), .unset] [])) rfl (hb hby at_120) (by decide) (by decide)
          obtain ⟨b451, gg451⟩ : ∃ z, z = h0.size := ⟨_, rfl⟩
          rw [← gg451] at A451 D451 st451
          have ne452 : s_NO_PROP ≠ b451 := Nat.ne_of_lt (Nat.lt_of_lt_of_le pf_E_s_NO_PROP.lt (Nat.le_of_eq gg451.symm))
          have ne453 : s_GRANT ≠ b451 := Nat.ne_of_lt (Nat.lt_of_lt_of_le pf_E_s_GRANT.lt (Nat.le_of_eq gg451.symm))
          have ne454 : s_FIRST_LEVEL ≠ b451 := Nat.ne_of_lt (Nat.lt_of_lt_of_le pf_E_s_FIRST_LEVEL.lt (Nat.le_of_eq gg451.symm))
          have ne455 : s_DENY ≠ b451 := Nat.ne_of_lt (Nat.lt_of_lt_of_le pf_E_s_DENY.lt (Nat.le_of_eq gg451.symm))
          have ne456 : s_CASCADE ≠ b451 := Nat.ne_of_lt (Nat.lt_of_lt_of_le pf_E_s_CASCADE.lt (Nat.le_of_eq gg451.symm))
          have g457 : n0 ≤ b451 := Nat.le_trans Z0 (Nat.le_of_eq gg451.symm)
          have bz458 : h0.size ≤ b451 := Nat.le_trans (Keep.refl h0 []).1 (Nat.le_of_eq gg451.symm)
          have K459 : Keep h0 h451 [] := (Keep.refl h0 []).ext E451
          have f460 : Fld Z h451 b451 "com/example/arbiter/arbiter/NodeRule" "path" "Ljava/lang/String;" .null := D451 (Or.inr wo25) (ty := (.object "java/lang/String")) (by decide)
          have f461 : Fld Z h451 b451 "com/example/arbiter/arbiter/NodeRule" "operation" "Lcom/example/arbiter/arbiter/DocumentOperation;" .null := D451 (Or.inr wo27) (ty := (.object "com/example/arbiter/arbiter/DocumentOperation")) (by decide)
          have f462 : Fld Z h451 b451 "com/example/arbiter/arbiter/NodeRule" "sign" "Lcom/example/arbiter/arbiter/NodeRule$Sign;" .null := D451 (Or.inr wo29) (ty := (.object "com/example/arbiter/arbiter/NodeRule$Sign")) (by decide)
          have f463 : Fld Z h451 b451 "com/example/arbiter/arbiter/NodeRule" "propagation" "Lcom/example/arbiter/arbiter/NodeRule$Propagation;" .null := D451 (Or.inr wo31) (ty := (.object "com/example/arbiter/arbiter/NodeRule$Propagation")) (by decide)
          have pre464 : ∀ t, Steps p.tables e below (T451.setTop (mkF m 124 #[iv p0_0, iv p0_1, iv p0_2, iv p0_3, iv (1 : Int32), rv s_FIRST_LEVEL, rv s_GRANT, iv lv, iv (1 : Int32), .unset] [(.ref b451), (.ref b451)])) t → Steps p.tables e below (s₁.setTop (entryFrame m #[(.int p0_0), (.int p0_1), (.int p0_2), (.int p0_3)] maxLocals)) t := by
            intro t_ k_
            refine pre418 _ ?_
            show Steps p.tables e below (T414.setTop (mkF m 104 #[iv p0_0, iv p0_1, iv p0_2, iv p0_3, iv (1 : Int32), rv s_FIRST_LEVEL, rv s_GRANT, iv lv, .unset, .unset] [(.int (1 : Int32)), (.int lv)])) _
            refine XS.icmpNo X414.here hx rfl (hb hby at_104) rfl (flt hc104_417).2.2.1 ?_
            show Steps p.tables e below (T414.setTop (mkF m 107 #[iv p0_0, iv p0_1, iv p0_2, iv p0_3, iv (1 : Int32), rv s_FIRST_LEVEL, rv s_GRANT, iv lv, .unset, .unset] [])) _
            refine XS.iconst X414.here hx rfl (hb hby at_107) ?_
            show Steps p.tables e below (T414.setTop (mkF m 108 #[iv p0_0, iv p0_1, iv p0_2, iv p0_3, iv (1 : Int32), rv s_FIRST_LEVEL, rv s_GRANT, iv lv, .unset, .unset] [(.int (1 : Int32))])) _
            refine XS.goto X414.here hx rfl (pc0 := 108) (pc' := 112) rfl (hb hby at_108) (by decide) (by decide) ?_
            show Steps p.tables e below (T414.setTop (mkF m 112 #[iv p0_0, iv p0_1, iv p0_2, iv p0_3, iv (1 : Int32), rv s_FIRST_LEVEL, rv s_GRANT, iv lv, .unset, .unset] [(.int (1 : Int32))])) _
            refine XS.istore X414.here hx rfl (hb hby at_112) rfl (l' := #[iv p0_0, iv p0_1, iv p0_2, iv p0_3, iv (1 : Int32), rv s_FIRST_LEVEL, rv s_GRANT, iv lv, iv (1 : Int32), .unset]) rfl ?_
            show Steps p.tables e below (T414.setTop (mkF m 114 #[iv p0_0, iv p0_1, iv p0_2, iv p0_3, iv (1 : Int32), rv s_FIRST_LEVEL, rv s_GRANT, iv lv, iv (1 : Int32), .unset] [])) _
            refine XS.goto X414.here hx rfl (pc0 := 114) (pc' := 120) rfl (hb hby at_114) (by decide) (by decide) ?_
            show Steps p.tables e below (T414.setTop (mkF m 120 #[iv p0_0, iv p0_1, iv p0_2, iv p0_3, iv (1 : Int32), rv s_FIRST_LEVEL, rv s_GRANT, iv lv, iv (1 : Int32), .unset] [])) _
            refine st451 _ ?_
            show Steps p.tables e below (T451.setTop (mkF m 123 #[iv p0_0, iv p0_1, iv p0_2, iv p0_3, iv (1 : Int32), rv s_FIRST_LEVEL, rv s_GRANT, iv lv, iv (1 : Int32), .unset] [(.ref b451)])) _
            refine XS.dup X451.here hx rfl (hb hby at_123) rfl rfl ?_
            exact k_
          obtain ⟨sa465, T465, h465, k465, X465, e465, E465, S465, K465, hZ, hown, st465⟩ := ldcS (s := s) (vm0 := s.vm) X451 hx hZ hown wo10 (fun d hd => hw d ((by decide +kernel : ∀ d ∈ Bundle.stringAtoms, d ∈ tables_1) d hd)) e451 ((State.WarmedH.refl s).since 0) (Nat.zero_le _) (g := (mkF m 124 #[iv p0_0, iv p0_1, iv p0_2, iv p0_3, iv (1 : Int32), rv s_FIRST_LEVEL, rv s_GRANT, iv lv, iv (1 : Int32), .unset] [(.ref b451), (.ref b451)])) rfl (hb hby at_124) (n := 4) (by decide) (by decide) (by decide) (by decide)
          have K466 : Keep h0 h465 [] := (K459).ext E465
          have f467 := (A451.ext E465)
          have f468 := (f460.ext E465)
          have f469 := (f461.ext E465)
          have f470 := (f462.ext E465)
          have f471 := (f463.ext E465)
          have f473 := (Nat.le_trans (Nat.le_trans Z0 E451.1) E465.1)
          obtain ⟨_, _, ⟨T472, L472, k472, n472⟩, -, X472, ⟨Lc472, hQ472, l472, y472, z472⟩, st472⟩ := X465.specialBack hx (y := MN1) rfl hown (mvT hZ wo18) (mvT hZ wo19) (mvT hZ wo20) (by decide) (backOf (W := 1) (rm1 l Z a0 hw [] b451 sa465 s_GRANT s_FIRST_LEVEL h465 n0 f473 f467 g457 f468 f469 f470 f471) hZ wo20 wo9 (by decide) (by decide)) (g := (mkF m 131 #[iv p0_0, iv p0_1, iv p0_2, iv p0_3, iv (1 : Int32), rv s_FIRST_LEVEL, rv s_GRANT, iv lv, iv (1 : Int32), .unset] [(.ref s_FIRST_LEVEL), (.ref s_GRANT), .null, (.ref sa465), (.ref b451), (.ref b451)])) rfl (by rw [hml]; rfl) (Steps.refl _) (a := b451) (argsL := [(.ref sa465), .null, (.ref s_GRANT), (.ref s_FIRST_LEVEL)]) (rest := [(.ref b451)]) (lenOf pd_2 rfl) rfl (by show 2 * 0 + _ ≤ _; exact Nat.le_of_eq rfl) (hb hby at_131) (fun _ _ => ⟨rfl, e465, (by decide : 3 + 0 ≤ _), (by decide : 12 + 0 ≤ _)⟩)
          dsimp only [Pt.U, Pt.locs, Pt.cells, Pt.slots] at X472 l472 y472 z472 st472 hQ472
          rw [l472, y472, z472] at X472
          obtain ⟨rfl, N472q, K472q, hq472_0⟩ := hQ472
          have N474 := Fr.app N0 N472q
          have K475 : Keep h0 T472.heap [] := (K466).trans K472q (allS (P := fun x => x ∈ [] ∨ h0.size ≤ x) (Or.inr bz458) all0)
          have f476 := (((pf_F_s_FIRST_LEVEL_levels.ext E451).ext E465).keep K472q (ninS ne454 nin0))
          have f478 := (Nat.le_trans f473 K472q.1)
          have f479 := (f467.keep K472q)
          obtain ⟨cq477, kq477, q477a, q477b, q477c⟩ := isOf hZ rfl f479
          obtain ⟨_, _, ⟨T477, L477, k477, n477⟩, -, X477, ⟨Lc477, hQ477, l477, y477, z477⟩, st477⟩ := X472.virtualBack hx (y := MN3) (z := MN3) hown (mvT hZ wo32) (mvT hZ wo33) (notFace_of_selects (args := #[]) (mvT hZ wo35)) (mvT hZ wo35) (mvT hZ wo34) (by decide) (backOf (W := 0) (rm3 l Z a0 hw [] b451 lv s_FIRST_LEVEL (1 : Int32) (T472.heap) n0 f478 hq472_0 f476) hZ wo36 wo9 (by decide) (by decide)) q477a q477c (g := (mkF m 140 #[iv p0_0, iv p0_1, iv p0_2, iv p0_3, iv (1 : Int32), rv s_FIRST_LEVEL, rv s_GRANT, iv lv, iv (1 : Int32), rv b451] [(.int lv), (.ref b451)])) rfl (by rw [hml]; rfl) (Steps.refl _) (argsL := [(.int lv)]) (rest := []) (lenOf pd_1 rfl) rfl (by show 2 * 0 + _ ≤ _; exact Nat.le_of_eq rfl) (hb hby at_140) (fun _ _ => ⟨rfl, rfl, (by decide : 3 + 0 ≤ _), (by decide : 12 + 0 ≤ _)⟩)
          dsimp only [Pt.U, Pt.locs, Pt.cells, Pt.slots] at X477 l477 y477 z477 st477 hQ477
          rw [l477, y477, z477] at X477
          obtain ⟨rfl, N477q, K477q⟩ := hQ477
          have N480 := Fr.app N474 N477q
          have q481 : (if (1 : Int32) < lv then (0 : Int32) else (1 : Int32)) = (1 : Int32) := if_neg hc104_417
          have f482 := (Nat.le_trans K465 K472q.1)
          obtain ⟨fs, hr, hrun, hended, -, hW1, hW2, hW3⟩ := X477.leaveW S465 (by rw [K477q]; exact f482) (v := some (.int (1 : Int32))) (fun h => by rw [Bd.returns] at h; cases h)
          refine ⟨_, _, pre464 _ ?_, hrun, hended, _, _, rfl, ?_, hW1, hW2, hW3.mono (by decide) (by decide)⟩
          · show Steps p.tables e below (T451.setTop (mkF m 124 #[iv p0_0, iv p0_1, iv p0_2, iv p0_3, iv (1 : Int32), rv s_FIRST_LEVEL, rv s_GRANT, iv lv, iv (1 : Int32), .unset] [(.ref b451), (.ref b451)])) _
            refine st465 _ ?_
            show Steps p.tables e below (T465.setTop (mkF m 126 #[iv p0_0, iv p0_1, iv p0_2, iv p0_3, iv (1 : Int32), rv s_FIRST_LEVEL, rv s_GRANT, iv lv, iv (1 : Int32), .unset] [(.ref sa465), (.ref b451), (.ref b451)])) _
            refine XS.aconstNull X465.here hx rfl (hb hby at_126) ?_
            show Steps p.tables e below (T465.setTop (mkF m 127 #[iv p0_0, iv p0_1, iv p0_2, iv p0_3, iv (1 : Int32), rv s_FIRST_LEVEL, rv s_GRANT, iv lv, iv (1 : Int32), .unset] [.null, (.ref sa465), (.ref b451), (.ref b451)])) _
            refine XS.aload X465.here hx rfl (hb hby at_127) rfl rfl ?_
            show Steps p.tables e below (T465.setTop (mkF m 129 #[iv p0_0, iv p0_1, iv p0_2, iv p0_3, iv (1 : Int32), rv s_FIRST_LEVEL, rv s_GRANT, iv lv, iv (1 : Int32), .unset] [(.ref s_GRANT), .null, (.ref sa465), (.ref b451), (.ref b451)])) _
            refine XS.aload X465.here hx rfl (hb hby at_129) rfl rfl ?_
            show Steps p.tables e below (T465.setTop (mkF m 131 #[iv p0_0, iv p0_1, iv p0_2, iv p0_3, iv (1 : Int32), rv s_FIRST_LEVEL, rv s_GRANT, iv lv, iv (1 : Int32), .unset] [(.ref s_FIRST_LEVEL), (.ref s_GRANT), .null, (.ref sa465), (.ref b451), (.ref b451)])) _
            refine st472.trans ?_
            show Steps p.tables e below (T472.setTop (mkF m 134 #[iv p0_0, iv p0_1, iv p0_2, iv p0_3, iv (1 : Int32), rv s_FIRST_LEVEL, rv s_GRANT, iv lv, iv (1 : Int32), .unset] [(.ref b451)])) _
            refine XS.astore X472.here hx rfl (hb hby at_134) rfl rfl (l' := #[iv p0_0, iv p0_1, iv p0_2, iv p0_3, iv (1 : Int32), rv s_FIRST_LEVEL, rv s_GRANT, iv lv, iv (1 : Int32), rv b451]) rfl ?_
            show Steps p.tables e below (T472.setTop (mkF m 136 #[iv p0_0, iv p0_1, iv p0_2, iv p0_3, iv (1 : Int32), rv s_FIRST_LEVEL, rv s_GRANT, iv lv, iv (1 : Int32), rv b451] [])) _
            refine XS.aload X472.here hx rfl (hb hby at_136) rfl rfl ?_
            show Steps p.tables e below (T472.setTop (mkF m 138 #[iv p0_0, iv p0_1, iv p0_2, iv p0_3, iv (1 : Int32), rv s_FIRST_LEVEL, rv s_GRANT, iv lv, iv (1 : Int32), rv b451] [(.ref b451)])) _
            refine XS.iload X472.here hx rfl (hb hby at_138) rfl ?_
            show Steps p.tables e below (T472.setTop (mkF m 140 #[iv p0_0, iv p0_1, iv p0_2, iv p0_3, iv (1 : Int32), rv s_FIRST_LEVEL, rv s_GRANT, iv lv, iv (1 : Int32), rv b451] [(.int lv), (.ref b451)])) _
            refine st477.trans ?_
            rw [q481]
            show Steps p.tables e below (T477.setTop (mkF m 143 #[iv p0_0, iv p0_1, iv p0_2, iv p0_3, iv (1 : Int32), rv s_FIRST_LEVEL, rv s_GRANT, iv lv, iv (1 : Int32), rv b451] [(.int (1 : Int32))])) _
            show Steps p.tables e below (T477.setTop (mkF m 143 #[iv p0_0, iv p0_1, iv p0_2, iv p0_3, iv (1 : Int32), rv s_FIRST_LEVEL, rv s_GRANT, iv lv, iv (1 : Int32), rv b451] [(.int (1 : Int32))])) _
            refine XS.iload X477.here hx rfl (hb hby at_143) rfl ?_
            show Steps p.tables e below (T477.setTop (mkF m 145 #[iv p0_0, iv p0_1, iv p0_2, iv p0_3, iv (1 : Int32), rv s_FIRST_LEVEL, rv s_GRANT, iv lv, iv (1 : Int32), rv b451] [(.int (1 : Int32)), (.int (1 : Int32))])) _
            refine XS.icmpNo X477.here hx rfl (hb hby at_145) rfl (teq (by decide : (1 : Int32) = (1 : Int32))).2 ?_
            show Steps p.tables e below (T477.setTop (mkF m 148 #[iv p0_0, iv p0_1, iv p0_2, iv p0_3, iv (1 : Int32), rv s_FIRST_LEVEL, rv s_GRANT, iv lv, iv (1 : Int32), rv b451] [])) _
            refine XS.iconst X477.here hx rfl (hb hby at_148) ?_
            show Steps p.tables e below (T477.setTop (mkF m 149 #[iv p0_0, iv p0_1, iv p0_2, iv p0_3, iv (1 : Int32), rv s_FIRST_LEVEL, rv s_GRANT, iv lv, iv (1 : Int32), rv b451] [(.int (1 : Int32))])) _
            refine XS.goto X477.here hx rfl (pc0 := 149) (pc' := 153) rfl (hb hby at_149) (by decide) (by decide) ?_
            show Steps p.tables e below (T477.setTop (mkF m 153 #[iv p0_0, iv p0_1, iv p0_2, iv p0_3, iv (1 : Int32), rv s_FIRST_LEVEL, rv s_GRANT, iv lv, iv (1 : Int32), rv b451] [(.int (1 : Int32))])) _
            exact retN X477 hx (t := .boolean) Bd.returns (by simp) (hb hby at_153) hr
          · show Q_rm0 Z _ _ _ _ _ _ _ _ _ h0 n0 _ T477.heap _
            rw [K477q]
            exact ⟨rfl, N480, (K475)⟩
      · skip
        obtain ⟨lv, h_lv⟩ : ∃ z : Int32, z = (p0_2 &&& (3 : Int32)) := ⟨_, rfl⟩
        have hlv : 0 ≤ lv.toInt := by rw [h_lv]; first | exact own_3 _ | exact own_m _
        have pre484 : ∀ t, Steps p.tables e below (T414.setTop (mkF m 104 #[iv p0_0, iv p0_1, iv p0_2, iv p0_3, iv (1 : Int32), rv s_FIRST_LEVEL, rv s_GRANT, iv lv, .unset, .unset] [(.int (1 : Int32)), (.int lv)])) t → Steps p.tables e below (s₁.setTop (entryFrame m #[(.int p0_0), (.int p0_1), (.int p0_2), (.int p0_3)] maxLocals)) t := by
          intro t_ k_
          refine pre416 _ ?_
          show Steps p.tables e below (T414.setTop (mkF m 60 #[iv p0_0, iv p0_1, iv p0_2, iv p0_3, iv (1 : Int32), rv s_FIRST_LEVEL, rv s_GRANT, .unset, .unset, .unset] [(.int (p0_3 &&& (1 : Int32)))])) _
          refine XS.ifNo X414.here hx rfl (hb hby at_60) rfl ((if0 _ _).trans (feq hc60_415).1) ?_
          show Steps p.tables e below (T414.setTop (mkF m 63 #[iv p0_0, iv p0_1, iv p0_2, iv p0_3, iv (1 : Int32), rv s_FIRST_LEVEL, rv s_GRANT, .unset, .unset, .unset] [])) _
          refine XS.iloadN X414.here hx rfl (hb hby at_63) rfl ?_
          show Steps p.tables e below (T414.setTop (mkF m 64 #[iv p0_0, iv p0_1, iv p0_2, iv p0_3, iv (1 : Int32), rv s_FIRST_LEVEL, rv s_GRANT, .unset, .unset, .unset] [(.int p0_2)])) _
          refine XS.iconst X414.here hx rfl (hb hby at_64) ?_
          show Steps p.tables e below (T414.setTop (mkF m 65 #[iv p0_0, iv p0_1, iv p0_2, iv p0_3, iv (1 : Int32), rv s_FIRST_LEVEL, rv s_GRANT, .unset, .unset, .unset] [(.int (3 : Int32)), (.int p0_2)])) _
          refine XS.iand X414.here hx rfl (hb hby at_65) rfl ?_
          show Steps p.tables e below (T414.setTop (mkF m 66 #[iv p0_0, iv p0_1, iv p0_2, iv p0_3, iv (1 : Int32), rv s_FIRST_LEVEL, rv s_GRANT, .unset, .unset, .unset] [(.int (p0_2 &&& (3 : Int32)))])) _
          refine XS.goto X414.here hx rfl (pc0 := 66) (pc' := 73) rfl (hb hby at_66) (by decide) (by decide) ?_
          show Steps p.tables e below (T414.setTop (mkF m 73 #[iv p0_0, iv p0_1, iv p0_2, iv p0_3, iv (1 : Int32), rv s_FIRST_LEVEL, rv s_GRANT, .unset, .unset, .unset] [(.int (p0_2 &&& (3 : Int32)))])) _
          refine XS.istore X414.here hx rfl (hb hby at_73) rfl (l' := #[iv p0_0, iv p0_1, iv p0_2, iv p0_3, iv (1 : Int32), rv s_FIRST_LEVEL, rv s_GRANT, iv (p0_2 &&& (3 : Int32)), .unset, .unset]) rfl ?_
          rw [← h_lv]
          show Steps p.tables e below (T414.setTop (mkF m 75 #[iv p0_0, iv p0_1, iv p0_2, iv p0_3, iv (1 : Int32), rv s_FIRST_LEVEL, rv s_GRANT, iv lv, .unset, .unset] [])) _
          show Steps p.tables e below (T414.setTop (mkF m 75 #[iv p0_0, iv p0_1, iv p0_2, iv p0_3, iv (1 : Int32), rv s_FIRST_LEVEL, rv s_GRANT, iv lv, .unset, .unset] [])) _
          refine XS.iload X414.here hx rfl (hb hby at_75) rfl ?_
          show Steps p.tables e below (T414.setTop (mkF m 77 #[iv p0_0, iv p0_1, iv p0_2, iv p0_3, iv (1 : Int32), rv s_FIRST_LEVEL, rv s_GRANT, iv lv, .unset, .unset] [(.int (1 : Int32))])) _
          refine XS.ifYes X414.here hx rfl (pc0 := 77) (pc' := 95) rfl (hb hby at_77) rfl ((if0 _ _).trans (feq (by decide : ¬ ((1 : Int32) = (0 : Int32)))).2) (by decide) (by decide) ?_
          show Steps p.tables e below (T414.setTop (mkF m 95 #[iv p0_0, iv p0_1, iv p0_2, iv p0_3, iv (1 : Int32), rv s_FIRST_LEVEL, rv s_GRANT, iv lv, .unset, .unset] [])) _
          refine XS.iload X414.here hx rfl (hb hby at_95) rfl ?_
          show Steps p.tables e below (T414.setTop (mkF m 97 #[iv p0_0, iv p0_1, iv p0_2, iv p0_3, iv (1 : Int32), rv s_FIRST_LEVEL, rv s_GRANT, iv lv, .unset, .unset] [(.int (1 : Int32))])) _
          refine XS.iconst X414.here hx rfl (hb hby at_97) ?_
          show Steps p.tables e below (T414.setTop (mkF m 98 #[iv p0_0, iv p0_1, iv p0_2, iv p0_3, iv (1 : Int32), rv s_FIRST_LEVEL, rv s_GRANT, iv lv, .unset, .unset] [(.int (1 : Int32)), (.int (1 : Int32))])) _
          refine XS.icmpNo X414.here hx rfl (hb hby at_98) rfl (teq (by decide : (1 : Int32) = (1 : Int32))).2 ?_
          show Steps p.tables e below (T414.setTop (mkF m 101 #[iv p0_0, iv p0_1, iv p0_2, iv p0_3, iv (1 : Int32), rv s_FIRST_LEVEL, rv s_GRANT, iv lv, .unset, .unset] [])) _
          refine XS.iload X414.here hx rfl (hb hby at_101) rfl ?_
          show Steps p.tables e below (T414.setTop (mkF m 103 #[iv p0_0, iv p0_1, iv p0_2, iv p0_3, iv (1 : Int32), rv s_FIRST_LEVEL, rv s_GRANT, iv lv, .unset, .unset] [(.int lv)])) _
          refine XS.iconst X414.here hx rfl (hb hby at_103) ?_
          exact k_
        by_cases hc104_483 : (1 : Int32) < lv
        · skip
          obtain ⟨T485, h485, X485, e485, E485, A485, D485, -, st485⟩ := newO X414 hx hZ hown wo7 wo8 wo9 e414 (g := (mkF m 120 #[iv p0_0, iv p0_1, iv p0_2, iv p0_3, iv (1 : Int32), rv s_FIRST_LEVEL, rv s_GRANT, iv lv, iv (0 : Int32), .unset] [])) rfl (hb hby at_120) (by decide) (by decide)
          obtain ⟨b485, gg485⟩ : ∃ z, z = h0.size := ⟨_, rfl⟩
          rw [← gg485] at A485 D485 st485
          have ne486 : s_NO_PROP ≠ b485 := Nat.ne_of_lt (Nat.lt_of_lt_of_le pf_E_s_NO_PROP.lt (Nat.le_of_eq gg485.symm))
          have ne487 : s_GRANT ≠ b485 := Nat.ne_of_lt (Nat.lt_of_lt_of_le pf_E_s_GRANT.lt (Nat.le_of_eq gg485.symm))
          have ne488 : s_FIRST_LEVEL ≠ b485 := Nat.ne_of_lt (Nat.lt_of_lt_of_le pf_E_s_FIRST_LEVEL.lt (Nat.le_of_eq gg485.symm))
          have ne489 : s_DENY ≠ b485 := Nat.ne_of_lt (Nat.lt_of_lt_of_le pf_E_s_DENY.lt (Nat.le_of_eq gg485.symm))
          have ne490 : s_CASCADE ≠ b485 := Nat.ne_of_lt (Nat.lt_of_lt_of_le pf_E_s_CASCADE.lt (Nat.le_of_eq gg485.symm))
          have g491 : n0 ≤ b485 := Nat.le_trans Z0 (Nat.le_of_eq gg485.symm)
          have bz492 : h0.size ≤ b485 := Nat.le_trans (Keep.refl h0 []).1 (Nat.le_of_eq gg485.symm)
          have K493 : Keep h0 h485 [] := (Keep.refl h0 []).ext E485
          have f494 : Fld Z h485 b485 "com/example/arbiter/arbiter/NodeRule" "path" "Ljava/lang/String;" .null := D485 (Or.inr wo25) (ty := (.object "java/lang/String")) (by decide)
          have f495 : Fld Z h485 b485 "com/example/arbiter/arbiter/NodeRule" "operation" "Lcom/example/arbiter/arbiter/DocumentOperation;" .null := D485 (Or.inr wo27) (ty := (.object "com/example/arbiter/arbiter/DocumentOperation")) (by decide)
          have f496 : Fld Z h485 b485 "com/example/arbiter/arbiter/NodeRule" "sign" "Lcom/example/arbiter/arbiter/NodeRule$Sign;" .null := D485 (Or.inr wo29) (ty := (.object "com/example/arbiter/arbiter/NodeRule$Sign")) (by decide)
          have f497 : Fld Z h485 b485 "com/example/arbiter/arbiter/NodeRule" "propagation" "Lcom/example/arbiter/arbiter/NodeRule$Propagation;" .null := D485 (Or.inr wo31) (ty := (.object "com/example/arbiter/arbiter/NodeRule$Propagation")) (by decide)
          have pre498 : ∀ t, Steps p.tables e below (T485.setTop (mkF m 124 #[iv p0_0, iv p0_1, iv p0_2, iv p0_3, iv (1 : Int32), rv s_FIRST_LEVEL, rv s_GRANT, iv lv, iv (0 : Int32), .unset] [(.ref b485), (.ref b485)])) t → Steps p.tables e below (s₁.setTop (entryFrame m #[(.int p0_0), (.int p0_1), (.int p0_2), (.int p0_3)] maxLocals)) t := by
            intro t_ k_
            refine pre484 _ ?_
            show Steps p.tables e below (T414.setTop (mkF m 104 #[iv p0_0, iv p0_1, iv p0_2, iv p0_3, iv (1 : Int32), rv s_FIRST_LEVEL, rv s_GRANT, iv lv, .unset, .unset] [(.int (1 : Int32)), (.int lv)])) _
            refine XS.icmpYes X414.here hx rfl (pc0 := 104) (pc' := 111) rfl (hb hby at_104) rfl (tlt hc104_483).2.2.1 (by decide) (by decide) ?_
            show Steps p.tables e below (T414.setTop (mkF m 111 #[iv p0_0, iv p0_1, iv p0_2, iv p0_3, iv (1 : Int32), rv s_FIRST_LEVEL, rv s_GRANT, iv lv, .unset, .unset] [])) _
            refine XS.iconst X414.here hx rfl (hb hby at_111) ?_
            show Steps p.tables e below (T414.setTop (mkF m 112 #[iv p0_0, iv p0_1, iv p0_2, iv p0_3, iv (1 : Int32), rv s_FIRST_LEVEL, rv s_GRANT, iv lv, .unset, .unset] [(.int (0 : Int32))])) _
            refine XS.istore X414.here hx rfl (hb hby at_112) rfl (l' := #[iv p0_0, iv p0_1, iv p0_2, iv p0_3, iv (1 : Int32), rv s_FIRST_LEVEL, rv s_GRANT, iv lv, iv (0 : Int32), .unset]) rfl ?_
            show Steps p.tables e below (T414.setTop (mkF m 114 #[iv p0_0, iv p0_1, iv p0_2, iv p0_3, iv (1 : Int32), rv s_FIRST_LEVEL, rv s_GRANT, iv lv, iv (0 : Int32), .unset] [])) _
            refine XS.goto X414.here hx rfl (pc0 := 114) (pc' := 120) rfl (hb hby at_114) (by decide) (by decide) ?_
            show Steps p.tables e below (T414.setTop (mkF m 120 #[iv p0_0, iv p0_1, iv p0_2, iv p0_3, iv (1 : Int32), rv s_FIRST_LEVEL, rv s_GRANT, iv lv, iv (0 : Int32), .unset] [])) _
            refine st485 _ ?_
            show Steps p.tables e below (T485.setTop (mkF m 123 #[iv p0_0, iv p0_1, iv p0_2, iv p0_3, iv (1 : Int32), rv s_FIRST_LEVEL, rv s_GRANT, iv lv, iv (0 : Int32), .unset] [(.ref b485)])) _
            refine XS.dup X485.here hx rfl (hb hby at_123) rfl rfl ?_
            exact k_
          obtain ⟨sa499, T499, h499, k499, X499, e499, E499, S499, K499, hZ, hown, st499⟩ := ldcS (s := s) (vm0 := s.vm) X485 hx hZ hown wo10 (fun d hd => hw d ((by decide +kernel : ∀ d ∈ Bundle.stringAtoms, d ∈ tables_1) d hd)) e485 ((State.WarmedH.refl s).since 0) (Nat.zero_le _) (g := (mkF m 124 #[iv p0_0, iv p0_1, iv p0_2, iv p0_3, iv (1 : Int32), rv s_FIRST_LEVEL, rv s_GRANT, iv lv, iv (0 : Int32), .unset] [(.ref b485), (.ref b485)])) rfl (hb hby at_124) (n := 4) (by decide) (by decide) (by decide) (by decide)
          have K500 : Keep h0 h499 [] := (K493).ext E499
          have f501 := (A485.ext E499)
          have f502 := (f494.ext E499)
          have f503 := (f495.ext E499)
          have f504 := (f496.ext E499)
          have f505 := (f497.ext E499)
          have f507 := (Nat.le_trans (Nat.le_trans Z0 E485.1) E499.1)
          obtain ⟨_, _, ⟨T506, L506, k506, n506⟩, -, X506, ⟨Lc506, hQ506, l506, y506, z506⟩, st506⟩ := X499.specialBack hx (y := MN1) rfl hown (mvT hZ wo18) (mvT hZ wo19) (mvT hZ wo20) (by decide) (backOf (W := 1) (rm1 l Z a0 hw [] b485 sa499 s_GRANT s_FIRST_LEVEL h499 n0 f507 f501 g491 f502 f503 f504 f505) hZ wo20 wo9 (by decide) (by decide)) (g := (mkF m 131 #[iv p0_0, iv p0_1, iv p0_2, iv p0_3, iv (1 : Int32), rv s_FIRST_LEVEL, rv s_GRANT, iv lv, iv (0 : Int32), .unset] [(.ref s_FIRST_LEVEL), (.ref s_GRANT), .null, (.ref sa499), (.ref b485), (.ref b485)])) rfl (by rw [hml]; rfl) (Steps.refl _) (a := b485) (argsL := [(.ref sa499), .null, (.ref s_GRANT), (.ref s_FIRST_LEVEL)]) (rest := [(.ref b485)]) (lenOf pd_2 rfl) rfl (by show 2 * 0 + _ ≤ _; exact Nat.le_of_eq rfl) (hb hby at_131) (fun _ _ => ⟨rfl, e499, (by decide : 3 + 0 ≤ _), (by decide : 12 + 0 ≤ _)⟩)
          dsimp only [Pt.U, Pt.locs, Pt.cells, Pt.slots] at X506 l506 y506 z506 st506 hQ506
          rw [l506, y506, z506] at X506
          obtain ⟨rfl, N506q, K506q, hq506_0⟩ := hQ506
          have N508 := Fr.app N0 N506q
          have K509 : Keep h0 T506.heap [] := (K500).trans K506q (allS (P := fun x => x ∈ [] ∨ h0.size ≤ x) (Or.inr bz492) all0)
          have f510 := (((pf_F_s_FIRST_LEVEL_levels.ext E485).ext E499).keep K506q (ninS ne488 nin0))
          have f512 := (Nat.le_trans f507 K506q.1)
          have f513 := (f501.keep K506q)
          obtain ⟨cq511, kq511, q511a, q511b, q511c⟩ := isOf hZ rfl f513
          obtain ⟨_, _, ⟨T511, L511, k511, n511⟩, -, X511, ⟨Lc511, hQ511, l511, y511, z511⟩, st511⟩ := X506.virtualBack hx (y := MN3) (z := MN3) hown (mvT hZ wo32) (mvT hZ wo33) (notFace_of_selects (args := #[]) (mvT hZ wo35)) (mvT hZ wo35) (mvT hZ wo34) (by decide) (backOf (W := 0) (rm3 l Z a0 hw [] b485 lv s_FIRST_LEVEL (1 : Int32) (T506.heap) n0 f512 hq506_0 f510) hZ wo36 wo9 (by decide) (by decide)) q511a q511c (g := (mkF m 140 #[iv p0_0, iv p0_1, iv p0_2, iv p0_3, iv (1 : Int32), rv s_FIRST_LEVEL, rv s_GRANT, iv lv, iv (0 : Int32), rv b485] [(.int lv), (.ref b485)])) rfl (by rw [hml]; rfl) (Steps.refl _) (argsL := [(.int lv)]) (rest := []) (lenOf pd_1 rfl) rfl (by show 2 * 0 + _ ≤ _; exact Nat.le_of_eq rfl) (hb hby at_140) (fun _ _ => ⟨rfl, rfl, (by decide : 3 + 0 ≤ _), (by decide : 12 + 0 ≤ _)⟩)
          dsimp only [Pt.U, Pt.locs, Pt.cells, Pt.slots] at X511 l511 y511 z511 st511 hQ511
          rw [l511, y511, z511] at X511
          obtain ⟨rfl, N511q, K511q⟩ := hQ511
          have N514 := Fr.app N508 N511q
          have q515 : (if (1 : Int32) < lv then (0 : Int32) else (1 : Int32)) = (0 : Int32) := if_pos hc104_483
          have f516 := (Nat.le_trans K499 K506q.1)
          obtain ⟨fs, hr, hrun, hended, -, hW1, hW2, hW3⟩ := X511.leaveW S499 (by rw [K511q]; exact f516) (v := some (.int (1 : Int32))) (fun h => by rw [Bd.returns] at h; cases h)
          refine ⟨_, _, pre498 _ ?_, hrun, hended, _, _, rfl, ?_, hW1, hW2, hW3.mono (by decide) (by decide)⟩
          · show Steps p.tables e below (T485.setTop (mkF m 124 #[iv p0_0, iv p0_1, iv p0_2, iv p0_3, iv (1 : Int32), rv s_FIRST_LEVEL, rv s_GRANT, iv lv, iv (0 : Int32), .unset] [(.ref b485), (.ref b485)])) _
            refine st499 _ ?_
            show Steps p.tables e below (T499.setTop (mkF m 126 #[iv p0_0, iv p0_1, iv p0_2, iv p0_3, iv (1 : Int32), rv s_FIRST_LEVEL, rv s_GRANT, iv lv, iv (0 : Int32), .unset] [(.ref sa499), (.ref b485), (.ref b485)])) _
            refine XS.aconstNull X499.here hx rfl (hb hby at_126) ?_
            show Steps p.tables e below (T499.setTop (mkF m 127 #[iv p0_0, iv p0_1, iv p0_2, iv p0_3, iv (1 : Int32), rv s_FIRST_LEVEL, rv s_GRANT, iv lv, iv (0 : Int32), .unset] [.null, (.ref sa499), (.ref b485), (.ref b485)])) _
            refine XS.aload X499.here hx rfl (hb hby at_127) rfl rfl ?_
            show Steps p.tables e below (T499.setTop (mkF m 129 #[iv p0_0, iv p0_1, iv p0_2, iv p0_3, iv (1 : Int32), rv s_FIRST_LEVEL, rv s_GRANT, iv lv, iv (0 : Int32), .unset] [(.ref s_GRANT), .null, (.ref sa499), (.ref b485), (.ref b485)])) _
            refine XS.aload X499.here hx rfl (hb hby at_129) rfl rfl ?_
            show Steps p.tables e below (T499.setTop (mkF m 131 #[iv p0_0, iv p0_1, iv p0_2, iv p0_3, iv (1 : Int32), rv s_FIRST_LEVEL, rv s_GRANT, iv lv, iv (0 : Int32), .unset] [(.ref s_FIRST_LEVEL), (.ref s_GRANT), .null, (.ref sa499), (.ref b485), (.ref b485)])) _
            refine st506.trans ?_
            show Steps p.tables e below (T506.setTop (mkF m 134 #[iv p0_0, iv p0_1, iv p0_2, iv p0_3, iv (1 : Int32), rv s_FIRST_LEVEL, rv s_GRANT, iv lv, iv (0 : Int32), .unset] [(.ref b485)])) _
            refine XS.astore X506.here hx rfl (hb hby at_134) rfl rfl (l' := #[iv p0_0, iv p0_1, iv p0_2, iv p0_3, iv (1 : Int32), rv s_FIRST_LEVEL, rv s_GRANT, iv lv, iv (0 : Int32), rv b485]) rfl ?_
            show Steps p.tables e below (T506.setTop (mkF m 136 #[iv p0_0, iv p0_1, iv p0_2, iv p0_3, iv (1 : Int32), rv s_FIRST_LEVEL, rv s_GRANT, iv lv, iv (0 : Int32), rv b485] [])) _
            refine XS.aload X506.here hx rfl (hb hby at_136) rfl rfl ?_
            show Steps p.tables e below (T506.setTop (mkF m 138 #[iv p0_0, iv p0_1, iv p0_2, iv p0_3, iv (1 : Int32), rv s_FIRST_LEVEL, rv s_GRANT, iv lv, iv (0 : Int32), rv b485] [(.ref b485)])) _
            refine XS.iload X506.here hx rfl (hb hby at_138) rfl ?_
            show Steps p.tables e below (T506.setTop (mkF m 140 #[iv p0_0, iv p0_1, iv p0_2, iv p0_3, iv (1 : Int32), rv s_FIRST_LEVEL, rv s_GRANT, iv lv, iv (0 : Int32), rv b485] [(.int lv), (.ref b485)])) _
            refine st511.trans ?_
            rw [q515]
            show Steps p.tables e below (T511.setTop (mkF m 143 #[iv p0_0, iv p0_1, iv p0_2, iv p0_3, iv (1 : Int32), rv s_FIRST_LEVEL, rv s_GRANT, iv lv, iv (0 : Int32), rv b485] [(.int (0 : Int32))])) _
            show Steps p.tables e below (T511.setTop (mkF m 143 #[iv p0_0, iv p0_1, iv p0_2, iv p0_3, iv (1 : Int32), rv s_FIRST_LEVEL, rv s_GRANT, iv lv, iv (0 : Int32), rv b485] [(.int (0 : Int32))])) _
            refine XS.iload X511.here hx rfl (hb hby at_143) rfl ?_
            show Steps p.tables e below (T511.setTop (mkF m 145 #[iv p0_0, iv p0_1, iv p0_2, iv p0_3, iv (1 : Int32), rv s_FIRST_LEVEL, rv s_GRANT, iv lv, iv (0 : Int32), rv b485] [(.int (0 : Int32)), (.int (0 : Int32))])) _
            refine XS.icmpNo X511.here hx rfl (hb hby at_145) rfl (teq (by decide : (0 : Int32) = (0 : Int32))).2 ?_
            show Steps p.tables e below (T511.setTop (mkF m 148 #[iv p0_0, iv p0_1, iv p0_2, iv p0_3, iv (1 : Int32), rv s_FIRST_LEVEL, rv s_GRANT, iv lv, iv (0 : Int32), rv b485] [])) _
            refine XS.iconst X511.here hx rfl (hb hby at_148) ?_
            show Steps p.tables e below (T511.setTop (mkF m 149 #[iv p0_0, iv p0_1, iv p0_2, iv p0_3, iv (1 : Int32), rv s_FIRST_LEVEL, rv s_GRANT, iv lv, iv (0 : Int32), rv b485] [(.int (1 : Int32))])) _
            refine XS.goto X511.here hx rfl (pc0 := 149) (pc' := 153) rfl (hb hby at_149) (by decide) (by decide) ?_
            show Steps p.tables e below (T511.setTop (mkF m 153 #[iv p0_0, iv p0_1, iv p0_2, iv p0_3, iv (1 : Int32), rv s_FIRST_LEVEL, rv s_GRANT, iv lv, iv (0 : Int32), rv b485] [(.int (1 : Int32))])) _
            exact retN X511 hx (t := .boolean) Bd.returns (by simp) (hb hby at_153) hr
          · show Q_rm0 Z _ _ _ _ _ _ _ _ _ h0 n0 _ T511.heap _
            rw [K511q]
            exact ⟨rfl, N514, (K509)⟩
        · skip
          obtain ⟨T517, h517, X517, e517, E517, A517, D517, -, st517⟩ := newO X414 hx hZ hown wo7 wo8 wo9 e414 (g := (mkF m 120 #[iv p0_0, iv p0_1, iv p0_2, iv p0_3, iv (1 : Int32), rv s_FIRST_LEVEL, rv s_GRANT, iv lv, iv (1 : Int32), .unset] [])) rfl (hb hby at_120) (by decide) (by decide)
          obtain ⟨b517, gg517⟩ : ∃ z, z = h0.size := ⟨_, rfl⟩
          rw [← gg517] at A517 D517 st517
          have ne518 : s_NO_PROP ≠ b517 := Nat.ne_of_lt (Nat.lt_of_lt_of_le pf_E_s_NO_PROP.lt (Nat.le_of_eq gg517.symm))
          have ne519 : s_GRANT ≠ b517 := Nat.ne_of_lt (Nat.lt_of_lt_of_le pf_E_s_GRANT.lt (Nat.le_of_eq gg517.symm))
          have ne520 : s_FIRST_LEVEL ≠ b517 := Nat.ne_of_lt (Nat.lt_of_lt_of_le pf_E_s_FIRST_LEVEL.lt (Nat.le_of_eq gg517.symm))
          have ne521 : s_DENY ≠ b517 := Nat.ne_of_lt (Nat.lt_of_lt_of_le pf_E_s_DENY.lt (Nat.le_of_eq gg517.symm))
          have ne522 : s_CASCADE ≠ b517 := Nat.ne_of_lt (Nat.lt_of_lt_of_le pf_E_s_CASCADE.lt (Nat.le_of_eq gg517.symm))
          have g523 : n0 ≤ b517 := Nat.le_trans Z0 (Nat.le_of_eq gg517.symm)
          have bz524 : h0.size ≤ b517 := Nat.le_trans (Keep.refl h0 []).1 (Nat.le_of_eq gg517.symm)
          have K525 : Keep h0 h517 [] := (Keep.refl h0 []).ext E517
          have f526 : Fld Z h517 b517 "com/example/arbiter/arbiter/NodeRule" "path" "Ljava/lang/String;" .null := D517 (Or.inr wo25) (ty := (.object "java/lang/String")) (by decide)
          have f527 : Fld Z h517 b517 "com/example/arbiter/arbiter/NodeRule" "operation" "Lcom/example/arbiter/arbiter/DocumentOperation;" .null := D517 (Or.inr wo27) (ty := (.object "com/example/arbiter/arbiter/DocumentOperation")) (by decide)
          have f528 : Fld Z h517 b517 "com/example/arbiter/arbiter/NodeRule" "sign" "Lcom/example/arbiter/arbiter/NodeRule$Sign;" .null := D517 (Or.inr wo29) (ty := (.object "com/example/arbiter/arbiter/NodeRule$Sign")) (by decide)
          have f529 : Fld Z h517 b517 "com/example/arbiter/arbiter/NodeRule" "propagation" "Lcom/example/arbiter/arbiter/NodeRule$Propagation;" .null := D517 (Or.inr wo31) (ty := (.object "com/example/arbiter/arbiter/NodeRule$Propagation")) (by decide)
          have pre530 : ∀ t, Steps p.tables e below (T517.setTop (mkF m 124 #[iv p0_0, iv p0_1, iv p0_2, iv p0_3, iv (1 : Int32), rv s_FIRST_LEVEL, rv s_GRANT, iv lv, iv (1 : Int32), .unset] [(.ref b517), (.ref b517)])) t → Steps p.tables e below (s₁.setTop (entryFrame m #[(.int p0_0), (.int p0_1), (.int p0_2), (.int p0_3)] maxLocals)) t := by
            intro t_ k_
            refine pre484 _ ?_
            show Steps p.tables e below (T414.setTop (mkF m 104 #[iv p0_0, iv p0_1, iv p0_2, iv p0_3, iv (1 : Int32), rv s_FIRST_LEVEL, rv s_GRANT, iv lv, .unset, .unset] [(.int (1 : Int32)), (.int lv)])) _
            refine XS.icmpNo X414.here hx rfl (hb hby at_104) rfl (flt hc104_483).2.2.1 ?_
            show Steps p.tables e below (T414.setTop (mkF m 107 #[iv p0_0, iv p0_1, iv p0_2, iv p0_3, iv (1 : Int32), rv s_FIRST_LEVEL, rv s_GRANT, iv lv, .unset, .unset] [])) _
            refine XS.iconst X414.here hx rfl (hb hby at_107) ?_
            show Steps p.tables e below (T414.setTop (mkF m 108 #[iv p0_0, iv p0_1, iv p0_2, iv p0_3, iv (1 : Int32), rv s_FIRST_LEVEL, rv s_GRANT, iv lv, .unset, .unset] [(.int (1 : Int32))])) _
            refine XS.goto X414.here hx rfl (pc0 := 108) (pc' := 112) rfl (hb hby at_108) (by decide) (by decide) ?_
            show Steps p.tables e below (T414.setTop (mkF m 112 #[iv p0_0, iv p0_1, iv p0_2, iv p0_3, iv (1 : Int32), rv s_FIRST_LEVEL, rv s_GRANT, iv lv, .unset, .unset] [(.int (1 : Int32))])) _
            refine XS.istore X414.here hx rfl (hb hby at_112) rfl (l' := #[iv p0_0, iv p0_1, iv p0_2, iv p0_3, iv (1 : Int32), rv s_FIRST_LEVEL, rv s_GRANT, iv lv, iv (1 : Int32), .unset]) rfl ?_
            show Steps p.tables e below (T414.setTop (mkF m 114 #[iv p0_0, iv p0_1, iv p0_2, iv p0_3, iv (1 : Int32), rv s_FIRST_LEVEL, rv s_GRANT, iv lv, iv (1 : Int32), .unset] [])) _
            refine XS.goto X414.here hx rfl (pc0 := 114) (pc' := 120) rfl (hb hby at_114) (by decide) (by decide) ?_
            show Steps p.tables e below (T414.setTop (mkF m 120 #[iv p0_0, iv p0_1, iv p0_2, iv p0_3, iv (1 : Int32), rv s_FIRST_LEVEL, rv s_GRANT, iv lv, iv (1 : Int32), .unset] [])) _
            refine st517 _ ?_
            show Steps p.tables e below (T517.setTop (mkF m 123 #[iv p0_0, iv p0_1, iv p0_2, iv p0_3, iv (1 : Int32), rv s_FIRST_LEVEL, rv s_GRANT, iv lv, iv (1 : Int32), .unset] [(.ref b517)])) _
            refine XS.dup X517.here hx rfl (hb hby at_123) rfl rfl ?_
            exact k_
          obtain ⟨sa531, T531, h531, k531, X531, e531, E531, S531, K531, hZ, hown, st531⟩ := ldcS (s := s) (vm0 := s.vm) X517 hx hZ hown wo10 (fun d hd => hw d ((by decide +kernel : ∀ d ∈ Bundle.stringAtoms, d ∈ tables_1) d hd)) e517 ((State.WarmedH.refl s).since 0) (Nat.zero_le _) (g := (mkF m 124 #[iv p0_0, iv p0_1, iv p0_2, iv p0_3, iv (1 : Int32), rv s_FIRST_LEVEL, rv s_GRANT, iv lv, iv (1 : Int32), .unset] [(.ref b517), (.ref b517)])) rfl (hb hby at_124) (n := 4) (by decide) (by decide) (by decide) (by decide)
          have K532 : Keep h0 h531 [] := (K525).ext E531
          have f533 := (A517.ext E531)
          have f534 := (f526.ext E531)
          have f535 := (f527.ext E531)
          have f536 := (f528.ext E531)
          have f537 := (f529.ext E531)
          have f539 := (Nat.le_trans (Nat.le_trans Z0 E517.1) E531.1)
          obtain ⟨_, _, ⟨T538, L538, k538, n538⟩, -, X538, ⟨Lc538, hQ538, l538, y538, z538⟩, st538⟩ := X531.specialBack hx (y := MN1) rfl hown (mvT hZ wo18) (mvT hZ wo19) (mvT hZ wo20) (by decide) (backOf (W := 1) (rm1 l Z a0 hw [] b517 sa531 s_GRANT s_FIRST_LEVEL h531 n0 f539 f533 g523 f534 f535 f536 f537) hZ wo20 wo9 (by decide) (by decide)) (g := (mkF m 131 #[iv p0_0, iv p0_1, iv p0_2, iv p0_3, iv (1 : Int32), rv s_FIRST_LEVEL, rv s_GRANT, iv lv, iv (1 : Int32), .unset] [(.ref s_FIRST_LEVEL), (.ref s_GRANT), .null, (.ref sa531), (.ref b517), (.ref b517)])) rfl (by rw [hml]; rfl) (Steps.refl _) (a := b517) (argsL := [(.ref sa531), .null, (.ref s_GRANT), (.ref s_FIRST_LEVEL)]) (rest := [(.ref b517)]) (lenOf pd_2 rfl) rfl (by show 2 * 0 + _ ≤ _; exact Nat.le_of_eq rfl) (hb hby at_131) (fun _ _ => ⟨rfl, e531, (by decide : 3 + 0 ≤ _), (by decide : 12 + 0 ≤ _)⟩)
          dsimp only [Pt.U, Pt.locs, Pt.cells, Pt.slots] at X538 l538 y538 z538 st538 hQ538
          rw [l538, y538, z538] at X538
          obtain ⟨rfl, N538q, K538q, hq538_0⟩ := hQ538
          have N540 := Fr.app N0 N538q
          have K541 : Keep h0 T538.heap [] := (K532).trans K538q (allS (P := fun x => x ∈ [] ∨ h0.size ≤ x) (Or.inr bz524) all0)
          have f542 := (((pf_F_s_FIRST_LEVEL_levels.ext E517).ext E531).keep K538q (ninS ne520 nin0))
          have f544 := (Nat.le_trans f539 K538q.1)
          have f545 := (f533.keep K538q)
          obtain ⟨cq543, kq543, q543a, q543b, q543c⟩ := isOf hZ rfl f545
          obtain ⟨_, _, ⟨T543, L543, k543, n543⟩, -, X543, ⟨Lc543, hQ543, l543, y543, z543⟩, st543⟩ := X538.virtualBack hx (y := MN3) (z := MN3) hown (mvT hZ wo32) (mvT hZ wo33) (notFace_of_selects (args := #[]) (mvT hZ wo35)) (mvT hZ wo35) (mvT hZ wo34) (by decide) (backOf (W := 0) (rm3 l Z a0 hw [] b517 lv s_FIRST_LEVEL (1 : Int32) (T538.heap) n0 f544 hq538_0 f542) hZ wo36 wo9 (by decide) (by decide)) q543a q543c (g := (mkF m 140 #[iv p0_0, iv p0_1, iv p0_2, iv p0_3, iv (1 : Int32), rv s_FIRST_LEVEL, rv s_GRANT, iv lv, iv (1 : Int32), rv b517] [(.int lv), (.ref b517)])) rfl (by rw [hml]; rfl) (Steps.refl _) (argsL := [(.int lv)]) (rest := []) (lenOf pd_1 rfl) rfl (by show 2 * 0 + _ ≤ _; exact Nat.le_of_eq rfl) (hb hby at_140) (fun _ _ => ⟨rfl, rfl, (by decide : 3 + 0 ≤ _), (by decide : 12 + 0 ≤ _)⟩)
          dsimp only [Pt.U, Pt.locs, Pt.cells, Pt.slots] at X543 l543 y543 z543 st543 hQ543
          rw [l543, y543, z543] at X543
          obtain ⟨rfl, N543q, K543q⟩ := hQ543
          have N546 := Fr.app N540 N543q
          have q547 : (if (1 : Int32) < lv then (0 : Int32) else (1 : Int32)) = (1 : Int32) := if_neg hc104_483
          have f548 := (Nat.le_trans K531 K538q.1)
          obtain ⟨fs, hr, hrun, hended, -, hW1, hW2, hW3⟩ := X543.leaveW S531 (by rw [K543q]; exact f548) (v := some (.int (1 : Int32))) (fun h => by rw [Bd.returns] at h; cases h)
          refine ⟨_, _, pre530 _ ?_, hrun, hended, _, _, rfl, ?_, hW1, hW2, hW3.mono (by decide) (by decide)⟩
          · show Steps p.tables e below (T517.setTop (mkF m 124 #[iv p0_0, iv p0_1, iv p0_2, iv p0_3, iv (1 : Int32), rv s_FIRST_LEVEL, rv s_GRANT, iv lv, iv (1 : Int32), .unset] [(.ref b517), (.ref b517)])) _
            refine st531 _ ?_
            show Steps p.tables e below (T531.setTop (mkF m 126 #[iv p0_0, iv p0_1, iv p0_2, iv p0_3, iv (1 : Int32), rv s_FIRST_LEVEL, rv s_GRANT, iv lv, iv (1 : Int32), .unset] [(.ref sa531), (.ref b517), (.ref b517)])) _
            refine XS.aconstNull X531.here hx rfl (hb hby at_126) ?_
            show Steps p.tables e below (T531.setTop (mkF m 127 #[iv p0_0, iv p0_1, iv p0_2, iv p0_3, iv (1 : Int32), rv s_FIRST_LEVEL, rv s_GRANT, iv lv, iv (1 : Int32), .unset] [.null, (.ref sa531), (.ref b517), (.ref b517)])) _
            refine XS.aload X531.here hx rfl (hb hby at_127) rfl rfl ?_
            show Steps p.tables e below (T531.setTop (mkF m 129 #[iv p0_0, iv p0_1, iv p0_2, iv p0_3, iv (1 : Int32), rv s_FIRST_LEVEL, rv s_GRANT, iv lv, iv (1 : Int32), .unset] [(.ref s_GRANT), .null, (.ref sa531), (.ref b517), (.ref b517)])) _
            refine XS.aload X531.here hx rfl (hb hby at_129) rfl rfl ?_
            show Steps p.tables e below (T531.setTop (mkF m 131 #[iv p0_0, iv p0_1, iv p0_2, iv p0_3, iv (1 : Int32), rv s_FIRST_LEVEL, rv s_GRANT, iv lv, iv (1 : Int32), .unset] [(.ref s_FIRST_LEVEL), (.ref s_GRANT), .null, (.ref sa531), (.ref b517), (.ref b517)])) _
            refine st538.trans ?_
            show Steps p.tables e below (T538.setTop (mkF m 134 #[iv p0_0, iv p0_1, iv p0_2, iv p0_3, iv (1 : Int32), rv s_FIRST_LEVEL, rv s_GRANT, iv lv, iv (1 : Int32), .unset] [(.ref b517)])) _
            refine XS.astore X538.here hx rfl (hb hby at_134) rfl rfl (l' := #[iv p0_0, iv p0_1, iv p0_2, iv p0_3, iv (1 : Int32), rv s_FIRST_LEVEL, rv s_GRANT, iv lv, iv (1 : Int32), rv b517]) rfl ?_
            show Steps p.tables e below (T538.setTop (mkF m 136 #[iv p0_0, iv p0_1, iv p0_2, iv p0_3, iv (1 : Int32), rv s_FIRST_LEVEL, rv s_GRANT, iv lv, iv (1 : Int32), rv b517] [])) _
            refine XS.aload X538.here hx rfl (hb hby at_136) rfl rfl ?_
            show Steps p.tables e below (T538.setTop (mkF m 138 #[iv p0_0, iv p0_1, iv p0_2, iv p0_3, iv (1 : Int32), rv s_FIRST_LEVEL, rv s_GRANT, iv lv, iv (1 : Int32), rv b517] [(.ref b517)])) _
            refine XS.iload X538.here hx rfl (hb hby at_138) rfl ?_
            show Steps p.tables e below (T538.setTop (mkF m 140 #[iv p0_0, iv p0_1, iv p0_2, iv p0_3, iv (1 : Int32), rv s_FIRST_LEVEL, rv s_GRANT, iv lv, iv (1 : Int32), rv b517] [(.int lv), (.ref b517)])) _
            refine st543.trans ?_
            rw [q547]
            show Steps p.tables e below (T543.setTop (mkF m 143 #[iv p0_0, iv p0_1, iv p0_2, iv p0_3, iv (1 : Int32), rv s_FIRST_LEVEL, rv s_GRANT, iv lv, iv (1 : Int32), rv b517] [(.int (1 : Int32))])) _
            show Steps p.tables e below (T543.setTop (mkF m 143 #[iv p0_0, iv p0_1, iv p0_2, iv p0_3, iv (1 : Int32), rv s_FIRST_LEVEL, rv s_GRANT, iv lv, iv (1 : Int32), rv b517] [(.int (1 : Int32))])) _
            refine XS.iload X543.here hx rfl (hb hby at_143) rfl ?_
            show Steps p.tables e below (T543.setTop (mkF m 145 #[iv p0_0, iv p0_1, iv p0_2, iv p0_3, iv (1 : Int32), rv s_FIRST_LEVEL, rv s_GRANT, iv lv, iv (1 : Int32), rv b517] [(.int (1 : Int32)), (.int (1 : Int32))])) _
            refine XS.icmpNo X543.here hx rfl (hb hby at_145) rfl (teq (by decide : (1 : Int32) = (1 : Int32))).2 ?_
            show Steps p.tables e below (T543.setTop (mkF m 148 #[iv p0_0, iv p0_1, iv p0_2, iv p0_3, iv (1 : Int32), rv s_FIRST_LEVEL, rv s_GRANT, iv lv, iv (1 : Int32), rv b517] [])) _
            refine XS.iconst X543.here hx rfl (hb hby at_148) ?_
            show Steps p.tables e below (T543.setTop (mkF m 149 #[iv p0_0, iv p0_1, iv p0_2, iv p0_3, iv (1 : Int32), rv s_FIRST_LEVEL, rv s_GRANT, iv lv, iv (1 : Int32), rv b517] [(.int (1 : Int32))])) _
            refine XS.goto X543.here hx rfl (pc0 := 149) (pc' := 153) rfl (hb hby at_149) (by decide) (by decide) ?_
            show Steps p.tables e below (T543.setTop (mkF m 153 #[iv p0_0, iv p0_1, iv p0_2, iv p0_3, iv (1 : Int32), rv s_FIRST_LEVEL, rv s_GRANT, iv lv, iv (1 : Int32), rv b517] [(.int (1 : Int32))])) _
            exact retN X543 hx (t := .boolean) Bd.returns (by simp) (hb hby at_153) hr
          · show Q_rm0 Z _ _ _ _ _ _ _ _ _ h0 n0 _ T543.heap _
            rw [K543q]
            exact ⟨rfl, N546, (K541)⟩
  · skip
    obtain ⟨T549, X549, e549, st549⟩ := getS2 X0 hx hZ hown (host := "") (Or.inl wo43) Via.refl e0 (pf_S_com_example_arbiter_arbiter_NodeRule_Propagation_CASCADE.ext pf_O.2) (g := (mkF m 35 #[iv p0_0, iv p0_1, iv p0_2, iv p0_3, iv (2 : Int32), .unset, .unset, .unset, .unset, .unset] [])) rfl (hb hby at_35)
    have pre551 : ∀ t, Steps p.tables e below (T549.setTop (mkF m 43 #[iv p0_0, iv p0_1, iv p0_2, iv p0_3, iv (2 : Int32), rv s_CASCADE, .unset, .unset, .unset, .unset] [(.int (p0_1 &&& (1 : Int32)))])) t → Steps p.tables e below (s₁.setTop (entryFrame m #[(.int p0_0), (.int p0_1), (.int p0_2), (.int p0_3)] maxLocals)) t := by
      intro t_ k_
      refine pre1 _ ?_
      show Steps p.tables e below (s₁.setTop (mkF m 8 #[iv p0_0, iv p0_1, iv p0_2, iv p0_3, iv (2 : Int32), .unset, .unset, .unset, .unset, .unset] [])) _
      refine XS.iload X0.here hx rfl (hb hby at_8) rfl ?_
      show Steps p.tables e below (s₁.setTop (mkF m 10 #[iv p0_0, iv p0_1, iv p0_2, iv p0_3, iv (2 : Int32), .unset, .unset, .unset, .unset, .unset] [(.int (2 : Int32))])) _
      refine XS.ifYes X0.here hx rfl (pc0 := 10) (pc' := 21) rfl (hb hby at_10) rfl ((if0 _ _).trans (feq (by decide : ¬ ((2 : Int32) = (0 : Int32)))).2) (by decide) (by decide) ?_
      show Steps p.tables e below (s₁.setTop (mkF m 21 #[iv p0_0, iv p0_1, iv p0_2, iv p0_3, iv (2 : Int32), .unset, .unset, .unset, .unset, .unset] [])) _
      refine XS.iload X0.here hx rfl (hb hby at_21) rfl ?_
      show Steps p.tables e below (s₁.setTop (mkF m 23 #[iv p0_0, iv p0_1, iv p0_2, iv p0_3, iv (2 : Int32), .unset, .unset, .unset, .unset, .unset] [(.int (2 : Int32))])) _
      refine XS.iconst X0.here hx rfl (hb hby at_23) ?_
      show Steps p.tables e below (s₁.setTop (mkF m 24 #[iv p0_0, iv p0_1, iv p0_2, iv p0_3, iv (2 : Int32), .unset, .unset, .unset, .unset, .unset] [(.int (1 : Int32)), (.int (2 : Int32))])) _
      refine XS.icmpYes X0.here hx rfl (pc0 := 24) (pc' := 35) rfl (hb hby at_24) rfl (feq (by decide : ¬ ((2 : Int32) = (1 : Int32)))).2 (by decide) (by decide) ?_
      show Steps p.tables e below (s₁.setTop (mkF m 35 #[iv p0_0, iv p0_1, iv p0_2, iv p0_3, iv (2 : Int32), .unset, .unset, .unset, .unset, .unset] [])) _
      refine st549 _ ?_
      show Steps p.tables e below (T549.setTop (mkF m 38 #[iv p0_0, iv p0_1, iv p0_2, iv p0_3, iv (2 : Int32), .unset, .unset, .unset, .unset, .unset] [(.ref s_CASCADE)])) _
      refine XS.astore X549.here hx rfl (hb hby at_38) rfl rfl (l' := #[iv p0_0, iv p0_1, iv p0_2, iv p0_3, iv (2 : Int32), rv s_CASCADE, .unset, .unset, .unset, .unset]) rfl ?_
      show Steps p.tables e below (T549.setTop (mkF m 40 #[iv p0_0, iv p0_1, iv p0_2, iv p0_3, iv (2 : Int32), rv s_CASCADE, .unset, .unset, .unset, .unset] [])) _
      refine XS.iloadN X549.here hx rfl (hb hby at_40) rfl ?_
      show Steps p.tables e below (T549.setTop (mkF m 41 #[iv p0_0, iv p0_1, iv p0_2, iv p0_3, iv (2 : Int32), rv s_CASCADE, .unset, .unset, .unset, .unset] [(.int p0_1)])) _
      refine XS.iconst X549.here hx rfl (hb hby at_41) ?_
      show Steps p.tables e below (T549.setTop (mkF m 42 #[iv p0_0, iv p0_1, iv p0_2, iv p0_3, iv (2 : Int32), rv s_CASCADE, .unset, .unset, .unset, .unset] [(.int (1 : Int32)), (.int p0_1)])) _
      refine XS.iand X549.here hx rfl (hb hby at_42) rfl ?_
      exact k_
    by_cases hc43_550 : (p0_1 &&& (1 : Int32)) = (0 : Int32)
    · skip
      obtain ⟨T552, X552, e552, st552⟩ := getS2 X549 hx hZ hown (host := "") (Or.inl wo41) Via.refl e549 (pf_S_com_example_arbiter_arbiter_NodeRule_Sign_DENY.ext pf_O.2) (g := (mkF m 52 #[iv p0_0, iv p0_1, iv p0_2, iv p0_3, iv (2 : Int32), rv s_CASCADE, .unset, .unset, .unset, .unset] [])) rfl (hb hby at_52)
      have pre554 : ∀ t, Steps p.tables e below (T552.setTop (mkF m 60 #[iv p0_0, iv p0_1, iv p0_2, iv p0_3, iv (2 : Int32), rv s_CASCADE, rv s_DENY, .unset, .unset, .unset] [(.int (p0_3 &&& (1 : Int32)))])) t → Steps p.tables e below (s₁.setTop (entryFrame m #[(.int p0_0), (.int p0_1), (.int p0_2), (.int p0_3)] maxLocals)) t := by
        intro t_ k_
        refine pre551 _ ?_
        show Steps p.tables e below (T549.setTop (mkF m 43 #[iv p0_0, iv p0_1, iv p0_2, iv p0_3, iv (2 : Int32), rv s_CASCADE, .unset, .unset, .unset, .unset] [(.int (p0_1 &&& (1 : Int32)))])) _
        refine XS.ifYes X549.here hx rfl (pc0 := 43) (pc' := 52) rfl (hb hby at_43) rfl ((if0 _ _).trans (teq hc43_550).1) (by decide) (by decide) ?_
        show Steps p.tables e below (T549.setTop (mkF m 52 #[iv p0_0, iv p0_1, iv p0_2, iv p0_3, iv (2 : Int32), rv s_CASCADE, .unset, .unset, .unset, .unset] [])) _
        refine st552 _ ?_
        show Steps p.tables e below (T552.setTop (mkF m 55 #[iv p0_0, iv p0_1, iv p0_2, iv p0_3, iv (2 : Int32), rv s_CASCADE, .unset, .unset, .unset, .unset] [(.ref s_DENY)])) _
        refine XS.astore X552.here hx rfl (hb hby at_55) rfl rfl (l' := #[iv p0_0, iv p0_1, iv p0_2, iv p0_3, iv (2 : Int32), rv s_CASCADE, rv s_DENY, .unset, .unset, .unset]) rfl ?_
        show Steps p.tables e below (T552.setTop (mkF m 57 #[iv p0_0, iv p0_1, iv p0_2, iv p0_3, iv (2 : Int32), rv s_CASCADE, rv s_DENY, .unset, .unset, .unset] [])) _
        refine XS.iloadN X552.here hx rfl (hb hby at_57) rfl ?_
        show Steps p.tables e below (T552.setTop (mkF m 58 #[iv p0_0, iv p0_1, iv p0_2, iv p0_3, iv (2 : Int32), rv s_CASCADE, rv s_DENY, .unset, .unset, .unset] [(.int p0_3)])) _
        refine XS.iconst X552.here hx rfl (hb hby at_58) ?_
        show Steps p.tables e below (T552.setTop (mkF m 59 #[iv p0_0, iv p0_1, iv p0_2, iv p0_3, iv (2 : Int32), rv s_CASCADE, rv s_DENY, .unset, .unset, .unset] [(.int (1 : Int32)), (.int p0_3)])) _
        refine XS.iand X552.here hx rfl (hb hby at_59) rfl ?_
        exact k_
      by_cases hc60_553 : (p0_3 &&& (1 : Int32)) = (0 : Int32)
      · skip
        obtain ⟨lv, h_lv⟩ : ∃ z : Int32, z = (p0_2 &&& (2147483647 : Int32)) := ⟨_, rfl⟩
        have hlv : 0 ≤ lv.toInt := by rw [h_lv]; first | exact own_3 _ | exact own_m _
        obtain ⟨T555, h555, X555, e555, E555, A555, D555, -, st555⟩ := newO X552 hx hZ hown wo7 wo8 wo9 e552 (g := (mkF m 120 #[iv p0_0, iv p0_1, iv p0_2, iv p0_3, iv (2 : Int32), rv s_CASCADE, rv s_DENY, iv lv, iv (1 : Int32), .unset] [])) rfl (hb hby at_120) (by decide) (by decide)
        obtain ⟨b555, gg555⟩ : ∃ z, z = h0.size := ⟨_, rfl⟩
        rw [← gg555] at A555 D555 st555
        have ne556 : s_NO_PROP ≠ b555 := Nat.ne_of_lt (Nat.lt_of_lt_of_le pf_E_s_NO_PROP.lt (Nat.le_of_eq gg555.symm))
        have ne557 : s_GRANT ≠ b555 := Nat.ne_of_lt (Nat.lt_of_lt_of_le pf_E_s_GRANT.lt (Nat.le_of_eq gg555.symm))
        have ne558 : s_FIRST_LEVEL ≠ b555 := Nat.ne_of_lt (Nat.lt_of_lt_of_le pf_E_s_FIRST_LEVEL.lt (Nat.le_of_eq gg555.symm))
        have ne559 : s_DENY ≠ b555 := Nat.ne_of_lt (Nat.lt_of_lt_of_le pf_E_s_DENY.lt (Nat.le_of_eq gg555.symm))
        have ne560 : s_CASCADE ≠ b555 := Nat.ne_of_lt (Nat.lt_of_lt_of_le pf_E_s_CASCADE.lt (Nat.le_of_eq gg555.symm))
        have g561 : n0 ≤ b555 := Nat.le_trans Z0 (Nat.le_of_eq gg555.symm)
        have bz562 : h0.size ≤ b555 := Nat.le_trans (Keep.refl h0 []).1 (Nat.le_of_eq gg555.symm)
        have K563 : Keep h0 h555 [] := (Keep.refl h0 []).ext E555
        have f564 : Fld Z h555 b555 "com/example/arbiter/arbiter/NodeRule" "path" "Ljava/lang/String;" .null := D555 (Or.inr wo25) (ty := (.object "java/lang/String")) (by decide)
        have f565 : Fld Z h555 b555 "com/example/arbiter/arbiter/NodeRule" "operation" "Lcom/example/arbiter/arbiter/DocumentOperation;" .null := D555 (Or.inr wo27) (ty := (.object "com/example/arbiter/arbiter/DocumentOperation")) (by decide)
        have f566 : Fld Z h555 b555 "com/example/arbiter/arbiter/NodeRule" "sign" "Lcom/example/arbiter/arbiter/NodeRule$Sign;" .null := D555 (Or.inr wo29) (ty := (.object "com/example/arbiter/arbiter/NodeRule$Sign")) (by decide)
        have f567 : Fld Z h555 b555 "com/example/arbiter/arbiter/NodeRule" "propagation" "Lcom/example/arbiter/arbiter/NodeRule$Propagation;" .null := D555 (Or.inr wo31) (ty := (.object "com/example/arbiter/arbiter/NodeRule$Propagation")) (by decide)
        have pre568 : ∀ t, Steps p.tables e below (T555.setTop (mkF m 124 #[iv p0_0, iv p0_1, iv p0_2, iv p0_3, iv (2 : Int32), rv s_CASCADE, rv s_DENY, iv lv, iv (1 : Int32), .unset] [(.ref b555), (.ref b555)])) t → Steps p.tables e below (s₁.setTop (entryFrame m #[(.int p0_0), (.int p0_1), (.int p0_2), (.int p0_3)] maxLocals)) t := by
          intro t_ k_
          refine pre554 _ ?_
          show Steps p.tables e below (T552.setTop (mkF m 60 #[iv p0_0, iv p0_1, iv p0_2, iv p0_3, iv (2 : Int32), rv s_CASCADE, rv s_DENY, .unset, .unset, .unset] [(.int (p0_3 &&& (1 : Int32)))])) _
          refine XS.ifYes X552.here hx rfl (pc0 := 60) (pc' := 69) rfl (hb hby at_60) rfl ((if0 _ _).trans (teq hc60_553).1) (by decide) (by decide) ?_
          show Steps p.tables e below (T552.setTop (mkF m 69 #[iv p0_0, iv p0_1, iv p0_2, iv p0_3, iv (2 : Int32), rv s_CASCADE, rv s_DENY, .unset, .unset, .unset] [])) _
          refine XS.iloadN X552.here hx rfl (hb hby at_69) rfl ?_
          show Steps p.tables e below (T552.setTop (mkF m 70 #[iv p0_0, iv p0_1, iv p0_2, iv p0_3, iv (2 : Int32), rv s_CASCADE, rv s_DENY, .unset, .unset, .unset] [(.int p0_2)])) _
          refine X552.ldcInt hx hown (mvT hZ wo0) (g := (mkF m 70 #[iv p0_0, iv p0_1, iv p0_2, iv p0_3, iv (2 : Int32), rv s_CASCADE, rv s_DENY, .unset, .unset, .unset] [(.int p0_2)])) rfl (hb hby at_70) _ ?_
          show Steps p.tables e below (T552.setTop (mkF m 72 #[iv p0_0, iv p0_1, iv p0_2, iv p0_3, iv (2 : Int32), rv s_CASCADE, rv s_DENY, .unset, .unset, .unset] [(.int (2147483647 : Int32)), (.int p0_2)])) _
          refine XS.iand X552.here hx rfl (hb hby at_72) rfl ?_
          show Steps p.tables e below (T552.setTop (mkF m 73 #[iv p0_0, iv p0_1, iv p0_2, iv p0_3, iv (2 : Int32), rv s_CASCADE, rv s_DENY, .unset, .unset, .unset] [(.int (p0_2 &&& (2147483647 : Int32)))])) _
          refine XS.istore X552.here hx rfl (hb hby at_73) rfl (l' := #[iv p0_0, iv p0_1, iv p0_2, iv p0_3, iv (2 : Int32), rv s_CASCADE, rv s_DENY, iv (p0_2 &&& (2147483647 : Int32)), .unset, .unset]) rfl ?_
          rw [← h_lv]
          show Steps p.tables e below (T552.setTop (mkF m 75 #[iv p0_0, iv p0_1, iv p0_2, iv p0_3, iv (2 : Int32), rv s_CASCADE, rv s_DENY, iv lv, .unset, .unset] [])) _
          show Steps p.tables e below (T552.setTop (mkF m 75 #[iv p0_0, iv p0_1, iv p0_2, iv p0_3, iv (2 : Int32), rv s_CASCADE, rv s_DENY, iv lv, .unset, .unset] [])) _
          refine XS.iload X552.here hx rfl (hb hby at_75) rfl ?_
          show Steps p.tables e below (T552.setTop (mkF m 77 #[iv p0_0, iv p0_1, iv p0_2, iv p0_3, iv (2 : Int32), rv s_CASCADE, rv s_DENY, iv lv, .unset, .unset] [(.int (2 : Int32))])) _
          refine XS.ifYes X552.here hx rfl (pc0 := 77) (pc' := 95) rfl (hb hby at_77) rfl ((if0 _ _).trans (feq (by decide : ¬ ((2 : Int32) = (0 : Int32)))).2) (by decide) (by decide) ?_
          show Steps p.tables e below (T552.setTop (mkF m 95 #[iv p0_0, iv p0_1, iv p0_2, iv p0_3, iv (2 : Int32), rv s_CASCADE, rv s_DENY, iv lv, .unset, .unset] [])) _
          refine XS.iload X552.here hx rfl (hb hby at_95) rfl ?_
          show Steps p.tables e below (T552.setTop (mkF m 97 #[iv p0_0, iv p0_1, iv p0_2, iv p0_3, iv (2 : Int32), rv s_CASCADE, rv s_DENY, iv lv, .unset, .unset] [(.int (2 : Int32))])) _
          refine XS.iconst X552.here hx rfl (hb hby at_97) ?_
          show Steps p.tables e below (T552.setTop (mkF m 98 #[iv p0_0, iv p0_1, iv p0_2, iv p0_3, iv (2 : Int32), rv s_CASCADE, rv s_DENY, iv lv, .unset, .unset] [(.int (1 : Int32)), (.int (2 : Int32))])) _
          refine XS.icmpYes X552.here hx rfl (pc0 := 98) (pc' := 117) rfl (hb hby at_98) rfl (feq (by decide : ¬ ((2 : Int32) = (1 : Int32)))).2 (by decide) (by decide) ?_
          show Steps p.tables e below (T552.setTop (mkF m 117 #[iv p0_0, iv p0_1, iv p0_2, iv p0_3, iv (2 : Int32), rv s_CASCADE, rv s_DENY, iv lv, .unset, .unset] [])) _
          refine XS.iconst X552.here hx rfl (hb hby at_117) ?_
          show Steps p.tables e below (T552.setTop (mkF m 118 #[iv p0_0, iv p0_1, iv p0_2, iv p0_3, iv (2 : Int32), rv s_CASCADE, rv s_DENY, iv lv, .unset, .unset] [(.int (1 : Int32))])) _
          refine XS.istore X552.here hx rfl (hb hby at_118) rfl (l' := #[iv p0_0, iv p0_1, iv p0_2, iv p0_3, iv (2 : Int32), rv s_CASCADE, rv s_DENY, iv lv, iv (1 : Int32), .unset]) rfl ?_
          show Steps p.tables e below (T552.setTop (mkF m 120 #[iv p0_0, iv p0_1, iv p0_2, iv p0_3, iv (2 : Int32), rv s_CASCADE, rv s_DENY, iv lv, iv (1 : Int32), .unset] [])) _
          refine st555 _ ?_
          show Steps p.tables e below (T555.setTop (mkF m 123 #[iv p0_0, iv p0_1, iv p0_2, iv p0_3, iv (2 : Int32), rv s_CASCADE, rv s_DENY, iv lv, iv (1 : Int32), .unset] [(.ref b555)])) _
          refine XS.dup X555.here hx rfl (hb hby at_123) rfl rfl ?_
          exact k_
        obtain ⟨sa569, T569, h569, k569, X569, e569, E569, S569, K569, hZ, hown, st569⟩ := ldcS (s := s) (vm0 := s.vm) X555 hx hZ hown wo10 (fun d hd => hw d ((by decide +kernel : ∀ d ∈ Bundle.stringAtoms, d ∈ tables_1) d hd)) e555 ((State.WarmedH.refl s).since 0) (Nat.zero_le _) (g := (mkF m 124 #[iv p0_0, iv p0_1, iv p0_2, iv p0_3, iv (2 : Int32), rv s_CASCADE, rv s_DENY, iv lv, iv (1 : Int32), .unset] [(.ref b555), (.ref b555)])) rfl (hb hby at_124) (n := 4) (by decide) (by decide) (by decide) (by decide)
        have K570 : Keep h0 h569 [] := (K563).ext E569
        have f571 := (A555.ext E569)
        have f572 := (f564.ext E569)
        have f573 := (f565.ext E569)
        have f574 := (f566.ext E569)
        have f575 := (f567.ext E569)
        have f577 := (Nat.le_trans (Nat.le_trans Z0 E555.1) E569.1)
        obtain ⟨_, _, ⟨T576, L576, k576, n576⟩, -, X576, ⟨Lc576, hQ576, l576, y576, z576⟩, st576⟩ := X569.specialBack hx (y := MN1) rfl hown (mvT hZ wo18) (mvT hZ wo19) (mvT hZ wo20) (by decide) (backOf (W := 1) (rm1 l Z a0 hw [] b555 sa569 s_DENY s_CASCADE h569 n0 f577 f571 g561 f572 f573 f574 f575) hZ wo20 wo9 (by decide) (by decide)) (g := (mkF m 131 #[iv p0_0, iv p0_1, iv p0_2, iv p0_3, iv (2 : Int32), rv s_CASCADE, rv s_DENY, iv lv, iv (1 : Int32), .unset] [(.ref s_CASCADE), (.ref s_DENY), .null, (.ref sa569), (.ref b555), (.ref b555)])) rfl (by rw [hml]; rfl) (Steps.refl _) (a := b555) (argsL := [(.ref sa569), .null, (.ref s_DENY), (.ref s_CASCADE)]) (rest := [(.ref b555)]) (lenOf pd_2 rfl) rfl (by show 2 * 0 + _ ≤ _; exact Nat.le_of_eq rfl) (hb hby at_131) (fun _ _ => ⟨rfl, e569, (by decide : 3 + 0 ≤ _), (by decide : 12 + 0 ≤ _)⟩)
        dsimp only [Pt.U, Pt.locs, Pt.cells, Pt.slots] at X576 l576 y576 z576 st576 hQ576
        rw [l576, y576, z576] at X576
        obtain ⟨rfl, N576q, K576q, hq576_0⟩ := hQ576
        have N578 := Fr.app N0 N576q
        have K579 : Keep h0 T576.heap [] := (K570).trans K576q (allS (P := fun x => x ∈ [] ∨ h0.size ≤ x) (Or.inr bz562) all0)
        have f580 := (((pf_F_s_CASCADE_levels.ext E555).ext E569).keep K576q (ninS ne560 nin0))
        have f582 := (Nat.le_trans f577 K576q.1)
        have f583 := (f571.keep K576q)
        obtain ⟨cq581, kq581, q581a, q581b, q581c⟩ := isOf hZ rfl f583
        obtain ⟨_, _, ⟨T581, L581, k581, n581⟩, -, X581, ⟨Lc581, hQ581, l581, y581, z581⟩, st581⟩ := X576.virtualBack hx (y := MN3) (z := MN3) hown (mvT hZ wo32) (mvT hZ wo33) (notFace_of_selects (args := #[]) (mvT hZ wo35)) (mvT hZ wo35) (mvT hZ wo34) (by decide) (backOf (W := 0) (rm3 l Z a0 hw [] b555 lv s_CASCADE (2147483647 : Int32) (T576.heap) n0 f582 hq576_0 f580) hZ wo36 wo9 (by decide) (by decide)) q581a q581c (g := (mkF m 140 #[iv p0_0, iv p0_1, iv p0_2, iv p0_3, iv (2 : Int32), rv s_CASCADE, rv s_DENY, iv lv, iv (1 : Int32), rv b555] [(.int lv), (.ref b555)])) rfl (by rw [hml]; rfl) (Steps.refl _) (argsL := [(.int lv)]) (rest := []) (lenOf pd_1 rfl) rfl (by show 2 * 0 + _ ≤ _; exact Nat.le_of_eq rfl) (hb hby at_140) (fun _ _ => ⟨rfl, rfl, (by decide : 3 + 0 ≤ _), (by decide : 12 + 0 ≤ _)⟩)
        dsimp only [Pt.U, Pt.locs, Pt.cells, Pt.slots] at X581 l581 y581 z581 st581 hQ581
        rw [l581, y581, z581] at X581
        obtain ⟨rfl, N581q, K581q⟩ := hQ581
        have N584 := Fr.app N578 N581q
        have q585 : (if (2147483647 : Int32) < lv then (0 : Int32) else (1 : Int32)) = (1 : Int32) := if_neg (own_mx lv)
        have f586 := (Nat.le_trans K569 K576q.1)
        obtain ⟨fs, hr, hrun, hended, -, hW1, hW2, hW3⟩ := X581.leaveW S569 (by rw [K581q]; exact f586) (v := some (.int (1 : Int32))) (fun h => by rw [Bd.returns] at h; cases h)
        refine ⟨_, _, pre568 _ ?_, hrun, hended, _, _, rfl, ?_, hW1, hW2, hW3.mono (by decide) (by decide)⟩
        · show Steps p.tables e below (T555.setTop (mkF m 124 #[iv p0_0, iv p0_1, iv p0_2, iv p0_3, iv (2 : Int32), rv s_CASCADE, rv s_DENY, iv lv, iv (1 : Int32), .unset] [(.ref b555), (.ref b555)])) _
          refine st569 _ ?_
          show Steps p.tables e below (T569.setTop (mkF m 126 #[iv p0_0, iv p0_1, iv p0_2, iv p0_3, iv (2 : Int32), rv s_CASCADE, rv s_DENY, iv lv, iv (1 : Int32), .unset] [(.ref sa569), (.ref b555), (.ref b555)])) _
          refine XS.aconstNull X569.here hx rfl (hb hby at_126) ?_
          show Steps p.tables e below (T569.setTop (mkF m 127 #[iv p0_0, iv p0_1, iv p0_2, iv p0_3, iv (2 : Int32), rv s_CASCADE, rv s_DENY, iv lv, iv (1 : Int32), .unset] [.null, (.ref sa569), (.ref b555), (.ref b555)])) _
          refine XS.aload X569.here hx rfl (hb hby at_127) rfl rfl ?_
          show Steps p.tables e below (T569.setTop (mkF m 129 #[iv p0_0, iv p0_1, iv p0_2, iv p0_3, iv (2 : Int32), rv s_CASCADE, rv s_DENY, iv lv, iv (1 : Int32), .unset] [(.ref s_DENY), .null, (.ref sa569), (.ref b555), (.ref b555)])) _
          refine XS.aload X569.here hx rfl (hb hby at_129) rfl rfl ?_
          show Steps p.tables e below (T569.setTop (mkF m 131 #[iv p0_0, iv p0_1, iv p0_2, iv p0_3, iv (2 : Int32), rv s_CASCADE, rv s_DENY, iv lv, iv (1 : Int32), .unset] [(.ref s_CASCADE), (.ref s_DENY), .null, (.ref sa569), (.ref b555), (.ref b555)])) _
          refine st576.trans ?_
          show Steps p.tables e below (T576.setTop (mkF m 134 #[iv p0_0, iv p0_1, iv p0_2, iv p0_3, iv (2 : Int32), rv s_CASCADE, rv s_DENY, iv lv, iv (1 : Int32), .unset] [(.ref b555)])) _
          refine XS.astore X576.here hx rfl (hb hby at_134) rfl rfl (l' := #[iv p0_0, iv p0_1, iv p0_2, iv p0_3, iv (2 : Int32), rv s_CASCADE, rv s_DENY, iv lv, iv (1 : Int32), rv b555]) rfl ?_
          show Steps p.tables e below (T576.setTop (mkF m 136 #[iv p0_0, iv p0_1, iv p0_2, iv p0_3, iv (2 : Int32), rv s_CASCADE, rv s_DENY, iv lv, iv (1 : Int32), rv b555] [])) _
          refine XS.aload X576.here hx rfl (hb hby at_136) rfl rfl ?_
          show Steps p.tables e below (T576.setTop (mkF m 138 #[iv p0_0, iv p0_1, iv p0_2, iv p0_3, iv (2 : Int32), rv s_CASCADE, rv s_DENY, iv lv, iv (1 : Int32), rv b555] [(.ref b555)])) _
          refine XS.iload X576.here hx rfl (hb hby at_138) rfl ?_
          show Steps p.tables e below (T576.setTop (mkF m 140 #[iv p0_0, iv p0_1, iv p0_2, iv p0_3, iv (2 : Int32), rv s_CASCADE, rv s_DENY, iv lv, iv (1 : Int32), rv b555] [(.int lv), (.ref b555)])) _
          refine st581.trans ?_
          rw [q585]
          show Steps p.tables e below (T581.setTop (mkF m 143 #[iv p0_0, iv p0_1, iv p0_2, iv p0_3, iv (2 : Int32), rv s_CASCADE, rv s_DENY, iv lv, iv (1 : Int32), rv b555] [(.int (1 : Int32))])) _
          show Steps p.tables e below (T581.setTop (mkF m 143 #[iv p0_0, iv p0_1, iv p0_2, iv p0_3, iv (2 : Int32), rv s_CASCADE, rv s_DENY, iv lv, iv (1 : Int32), rv b555] [(.int (1 : Int32))])) _
          refine XS.iload X581.here hx rfl (hb hby at_143) rfl ?_
          show Steps p.tables e below (T581.setTop (mkF m 145 #[iv p0_0, iv p0_1, iv p0_2, iv p0_3, iv (2 : Int32), rv s_CASCADE, rv s_DENY, iv lv, iv (1 : Int32), rv b555] [(.int (1 : Int32)), (.int (1 : Int32))])) _
          refine XS.icmpNo X581.here hx rfl (hb hby at_145) rfl (teq (by decide : (1 : Int32) = (1 : Int32))).2 ?_
          show Steps p.tables e below (T581.setTop (mkF m 148 #[iv p0_0, iv p0_1, iv p0_2, iv p0_3, iv (2 : Int32), rv s_CASCADE, rv s_DENY, iv lv, iv (1 : Int32), rv b555] [])) _
          refine XS.iconst X581.here hx rfl (hb hby at_148) ?_
          show Steps p.tables e below (T581.setTop (mkF m 149 #[iv p0_0, iv p0_1, iv p0_2, iv p0_3, iv (2 : Int32), rv s_CASCADE, rv s_DENY, iv lv, iv (1 : Int32), rv b555] [(.int (1 : Int32))])) _
          refine XS.goto X581.here hx rfl (pc0 := 149) (pc' := 153) rfl (hb hby at_149) (by decide) (by decide) ?_
          show Steps p.tables e below (T581.setTop (mkF m 153 #[iv p0_0, iv p0_1, iv p0_2, iv p0_3, iv (2 : Int32), rv s_CASCADE, rv s_DENY, iv lv, iv (1 : Int32), rv b555] [(.int (1 : Int32))])) _
          exact retN X581 hx (t := .boolean) Bd.returns (by simp) (hb hby at_153) hr
        · show Q_rm0 Z _ _ _ _ _ _ _ _ _ h0 n0 _ T581.heap _
          rw [K581q]
          exact ⟨rfl, N584, (K579)⟩
      · skip
        obtain ⟨lv, h_lv⟩ : ∃ z : Int32, z = (p0_2 &&& (3 : Int32)) := ⟨_, rfl⟩
        have hlv : 0 ≤ lv.toInt := by rw [h_lv]; first | exact own_3 _ | exact own_m _
        obtain ⟨T587, h587, X587, e587, E587, A587, D587, -, st587⟩ := newO X552 hx hZ hown wo7 wo8 wo9 e552 (g := (mkF m 120 #[iv p0_0, iv p0_1, iv p0_2, iv p0_3, iv (2 : Int32), rv s_CASCADE, rv s_DENY, iv lv, iv (1 : Int32), .unset] [])) rfl (hb hby at_120) (by decide) (by decide)
        obtain ⟨b587, gg587⟩ : ∃ z, z = h0.size := ⟨_, rfl⟩
        rw [← gg587] at A587 D587 st587
        have ne588 : s_NO_PROP ≠ b587 := Nat.ne_of_lt (Nat.lt_of_lt_of_le pf_E_s_NO_PROP.lt (Nat.le_of_eq gg587.symm))
        have ne589 : s_GRANT ≠ b587 := Nat.ne_of_lt (Nat.lt_of_lt_of_le pf_E_s_GRANT.lt (Nat.le_of_eq gg587.symm))
        have ne590 : s_FIRST_LEVEL ≠ b587 := Nat.ne_of_lt (Nat.lt_of_lt_of_le pf_E_s_FIRST_LEVEL.lt (Nat.le_of_eq gg587.symm))
        have ne591 : s_DENY ≠ b587 := Nat.ne_of_lt (Nat.lt_of_lt_of_le pf_E_s_DENY.lt (Nat.le_of_eq gg587.symm))
        have ne592 : s_CASCADE ≠ b587 := Nat.ne_of_lt (Nat.lt_of_lt_of_le pf_E_s_CASCADE.lt (Nat.le_of_eq gg587.symm))
        have g593 : n0 ≤ b587 := Nat.le_trans Z0 (Nat.le_of_eq gg587.symm)
        have bz594 : h0.size ≤ b587 := Nat.le_trans (Keep.refl h0 []).1 (Nat.le_of_eq gg587.symm)
        have K595 : Keep h0 h587 [] := (Keep.refl h0 []).ext E587
        have f596 : Fld Z h587 b587 "com/example/arbiter/arbiter/NodeRule" "path" "Ljava/lang/String;" .null := D587 (Or.inr wo25) (ty := (.object "java/lang/String")) (by decide)
        have f597 : Fld Z h587 b587 "com/example/arbiter/arbiter/NodeRule" "operation" "Lcom/example/arbiter/arbiter/DocumentOperation;" .null := D587 (Or.inr wo27) (ty := (.object "com/example/arbiter/arbiter/DocumentOperation")) (by decide)
        have f598 : Fld Z h587 b587 "com/example/arbiter/arbiter/NodeRule" "sign" "Lcom/example/arbiter/arbiter/NodeRule$Sign;" .null := D587 (Or.inr wo29) (ty := (.object "com/example/arbiter/arbiter/NodeRule$Sign")) (by decide)
        have f599 : Fld Z h587 b587 "com/example/arbiter/arbiter/NodeRule" "propagation" "Lcom/example/arbiter/arbiter/NodeRule$Propagation;" .null := D587 (Or.inr wo31) (ty := (.object "com/example/arbiter/arbiter/NodeRule$Propagation")) (by decide)
        have pre600 : ∀ t, Steps p.tables e below (T587.setTop (mkF m 124 #[iv p0_0, iv p0_1, iv p0_2, iv p0_3, iv (2 : Int32), rv s_CASCADE, rv s_DENY, iv lv, iv (1 : Int32), .unset] [(.ref b587), (.ref b587)])) t → Steps p.tables e below (s₁.setTop (entryFrame m #[(.int p0_0), (.int p0_1), (.int p0_2), (.int p0_3)] maxLocals)) t := by
          intro t_ k_
          refine pre554 _ ?_
          show Steps p.tables e below (T552.setTop (mkF m 60 #[iv p0_0, iv p0_1, iv p0_2, iv p0_3, iv (2 : Int32), rv s_CASCADE, rv s_DENY, .unset, .unset, .unset] [(.int (p0_3 &&& (1 : Int32)))])) _
          refine XS.ifNo X552.here hx rfl (hb hby at_60) rfl ((if0 _ _).trans (feq hc60_553).1) ?_
          show Steps p.tables e below (T552.setTop (mkF m 63 #[iv p0_0, iv p0_1, iv p0_2, iv p0_3, iv (2 : Int32), rv s_CASCADE, rv s_DENY, .unset, .unset, .unset] [])) _
          refine XS.iloadN X552.here hx rfl (hb hby at_63) rfl ?_
          show Steps p.tables e below (T552.setTop (mkF m 64 #[iv p0_0, iv p0_1, iv p0_2, iv p0_3, iv (2 : Int32), rv s_CASCADE, rv s_DENY, .unset, .unset, .unset] [(.int p0_2)])) _
          refine XS.iconst X552.here hx rfl (hb hby at_64) ?_
          show Steps p.tables e below (T552.setTop (mkF m 65 #[iv p0_0, iv p0_1, iv p0_2, iv p0_3, iv (2 : Int32), rv s_CASCADE, rv s_DENY, .unset, .unset, .unset] [(.int (3 : Int32)), (.int p0_2)])) _
          refine XS.iand X552.here hx rfl (hb hby at_65) rfl ?_
          show Steps p.tables e below (T552.setTop (mkF m 66 #[iv p0_0, iv p0_1, iv p0_2, iv p0_3, iv (2 : Int32), rv s_CASCADE, rv s_DENY, .unset, .unset, .unset] [(.int (p0_2 &&& (3 : Int32)))])) _
          refine XS.goto X552.here hx rfl (pc0 := 66) (pc' := 73) rfl (hb hby at_66) (by decide) (by decide) ?_
          show Steps p.tables e below (T552.setTop (mkF m 73 #[iv p0_0, iv p0_1, iv p0_2, iv p0_3, iv (2 : Int32), rv s_CASCADE, rv s_DENY, .unset, .unset, .unset] [(.int (p0_2 &&& (3 : Int32)))])) _
          refine XS.istore X552.here hx rfl (hb hby at_73) rfl (l' := #[iv p0_0, iv p0_1, iv p0_2, iv p0_3, iv (2 : Int32), rv s_CASCADE, rv s_DENY, iv (p0_2 &&& (3 : Int32)), .unset, .unset]) rfl ?_
          rw [← h_lv]
          show Steps p.tables e below (T552.setTop (mkF m 75 #[iv p0_0, iv p0_1, iv p0_2, iv p0_3, iv (2 : Int32), rv s_CASCADE, rv s_DENY, iv lv, .unset, .unset] [])) _
          show Steps p.tables e below (T552.setTop (mkF m 75 #[iv p0_0, iv p0_1, iv p0_2, iv p0_3, iv (2 : Int32), rv s_CASCADE, rv s_DENY, iv lv, .unset, .unset] [])) _
          refine XS.iload X552.here hx rfl (hb hby at_75) rfl ?_
          show Steps p.tables e below (T552.setTop (mkF m 77 #[iv p0_0, iv p0_1, iv p0_2, iv p0_3, iv (2 : Int32), rv s_CASCADE, rv s_DENY, iv lv, .unset, .unset] [(.int (2 : Int32))])) _
          refine XS.ifYes X552.here hx rfl (pc0 := 77) (pc' := 95) rfl (hb hby at_77) rfl ((if0 _ _).trans (feq (by decide : ¬ ((2 : Int32) = (0 : Int32)))).2) (by decide) (by decide) ?_
          show Steps p.tables e below (T552.setTop (mkF m 95 #[iv p0_0, iv p0_1, iv p0_2, iv p0_3, iv (2 : Int32), rv s_CASCADE, rv s_DENY, iv lv, .unset, .unset] [])) _
          refine XS.iload X552.here hx rfl (hb hby at_95) rfl ?_
          show Steps p.tables e below (T552.setTop (mkF m 97 #[iv p0_0, iv p0_1, iv p0_2, iv p0_3, iv (2 : Int32), rv s_CASCADE, rv s_DENY, iv lv, .unset, .unset] [(.int (2 : Int32))])) _
          refine XS.iconst X552.here hx rfl (hb hby at_97) ?_
          show Steps p.tables e below (T552.setTop (mkF m 98 #[iv p0_0, iv p0_1, iv p0_2, iv p0_3, iv (2 : Int32), rv s_CASCADE, rv s_DENY, iv lv, .unset, .unset] [(.int (1 : Int32)), (.int (2 : Int32))])) _
          refine XS.icmpYes X552.here hx rfl (pc0 := 98) (pc' := 117) rfl (hb hby at_98) rfl (feq (by decide : ¬ ((2 : Int32) = (1 : Int32)))).2 (by decide) (by decide) ?_
          show Steps p.tables e below (T552.setTop (mkF m 117 #[iv p0_0, iv p0_1, iv p0_2, iv p0_3, iv (2 : Int32), rv s_CASCADE, rv s_DENY, iv lv, .unset, .unset] [])) _
          refine XS.iconst X552.here hx rfl (hb hby at_117) ?_
          show Steps p.tables e below (T552.setTop (mkF m 118 #[iv p0_0, iv p0_1, iv p0_2, iv p0_3, iv (2 : Int32), rv s_CASCADE, rv s_DENY, iv lv, .unset, .unset] [(.int (1 : Int32))])) _
          refine XS.istore X552.here hx rfl (hb hby at_118) rfl (l' := #[iv p0_0, iv p0_1, iv p0_2, iv p0_3, iv (2 : Int32), rv s_CASCADE, rv s_DENY, iv lv, iv (1 : Int32), .unset]) rfl ?_
          show Steps p.tables e below (T552.setTop (mkF m 120 #[iv p0_0, iv p0_1, iv p0_2, iv p0_3, iv (2 : Int32), rv s_CASCADE, rv s_DENY, iv lv, iv (1 : Int32), .unset] [])) _
          refine st587 _ ?_
          show Steps p.tables e below (T587.setTop (mkF m 123 #[iv p0_0, iv p0_1, iv p0_2, iv p0_3, iv (2 : Int32), rv s_CASCADE, rv s_DENY, iv lv, iv (1 : Int32), .unset] [(.ref b587)])) _
          refine XS.dup X587.here hx rfl (hb hby at_123) rfl rfl ?_
          exact k_
        obtain ⟨sa601, T601, h601, k601, X601, e601, E601, S601, K601, hZ, hown, st601⟩ := ldcS (s := s) (vm0 := s.vm) X587 hx hZ hown wo10 (fun d hd => hw d ((by decide +kernel : ∀ d ∈ Bundle.stringAtoms, d ∈ tables_1) d hd)) e587 ((State.WarmedH.refl s).since 0) (Nat.zero_le _) (g := (mkF m 124 #[iv p0_0, iv p0_1, iv p0_2, iv p0_3, iv (2 : Int32), rv s_CASCADE, rv s_DENY, iv lv, iv (1 : Int32), .unset] [(.ref b587), (.ref b587)])) rfl (hb hby at_124) (n := 4) (by decide) (by decide) (by decide) (by decide)
        have K602 : Keep h0 h601 [] := (K595).ext E601
        have f603 := (A587.ext E601)
        have f604 := (f596.ext E601)
        have f605 := (f597.ext E601)
        have f606 := (f598.ext E601)
        have f607 := (f599.ext E601)
        have f609 := (Nat.le_trans (Nat.le_trans Z0 E587.1) E601.1)
        obtain ⟨_, _, ⟨T608, L608, k608, n608⟩, -, X608, ⟨Lc608, hQ608, l608, y608, z608⟩, st608⟩ := X601.specialBack hx (y := MN1) rfl hown (mvT hZ wo18) (mvT hZ wo19) (mvT hZ wo20) (by decide) (backOf (W := 1) (rm1 l Z a0 hw [] b587 sa601 s_DENY s_CASCADE h601 n0 f609 f603 g593 f604 f605 f606 f607) hZ wo20 wo9 (by decide) (by decide)) (g := (mkF m 131 #[iv p0_0, iv p0_1, iv p0_2, iv p0_3, iv (2 : Int32), rv s_CASCADE, rv s_DENY, iv lv, iv (1 : Int32), .unset] [(.ref s_CASCADE), (.ref s_DENY), .null, (.ref sa601), (.ref b587), (.ref b587)])) rfl (by rw [hml]; rfl) (Steps.refl _) (a := b587) (argsL := [(.ref sa601), .null, (.ref s_DENY), (.ref s_CASCADE)]) (rest := [(.ref b587)]) (lenOf pd_2 rfl) rfl (by show 2 * 0 + _ ≤ _; exact Nat.le_of_eq rfl) (hb hby at_131) (fun _ _ => ⟨rfl, e601, (by decide : 3 + 0 ≤ _), (by decide : 12 + 0 ≤ _)⟩)
        dsimp only [Pt.U, Pt.locs, Pt.cells, Pt.slots] at X608 l608 y608 z608 st608 hQ608
        rw [l608, y608, z608] at X608
        obtain ⟨rfl, N608q, K608q, hq608_0⟩ := hQ608
        have N610 := Fr.app N0 N608q
        have K611 : Keep h0 T608.heap [] := (K602).trans K608q (allS (P := fun x => x ∈ [] ∨ h0.size ≤ x) (Or.inr bz594) all0)
        have f612 := (((pf_F_s_CASCADE_levels.ext E587).ext E601).keep K608q (ninS ne592 nin0))
        have f614 := (Nat.le_trans f609 K608q.1)
        have f615 := (f603.keep K608q)
        obtain ⟨cq613, kq613, q613a, q613b, q613c⟩ := isOf hZ rfl f615
        obtain ⟨_, _, ⟨T613, L613, k613, n613⟩, -, X613, ⟨Lc613, hQ613, l613, y613, z613⟩, st613⟩ := X608.virtualBack hx (y := MN3) (z := MN3) hown (mvT hZ wo32) (mvT hZ wo33) (notFace_of_selects (args := #[]) (mvT hZ wo35)) (mvT hZ wo35) (mvT hZ wo34) (by decide) (backOf (W := 0) (rm3 l Z a0 hw [] b587 lv s_CASCADE (2147483647 : Int32) (T608.heap) n0 f614 hq608_0 f612) hZ wo36 wo9 (by decide) (by decide)) q613a q613c (g := (mkF m 140 #[iv p0_0, iv p0_1, iv p0_2, iv p0_3, iv (2 : Int32), rv s_CASCADE, rv s_DENY, iv lv, iv (1 : Int32), rv b587] [(.int lv), (.ref b587)])) rfl (by rw [hml]; rfl) (Steps.refl _) (argsL := [(.int lv)]) (rest := []) (lenOf pd_1 rfl) rfl (by show 2 * 0 + _ ≤ _; exact Nat.le_of_eq rfl) (hb hby at_140) (fun _ _ => ⟨rfl, rfl, (by decide : 3 + 0 ≤ _), (by decide : 12 + 0 ≤ _)⟩)
        dsimp only [Pt.U, Pt.locs, Pt.cells, Pt.slots] at X613 l613 y613 z613 st613 hQ613
        rw [l613, y613, z613] at X613
        obtain ⟨rfl, N613q, K613q⟩ := hQ613
        have N616 := Fr.app N610 N613q
        have q617 : (if (2147483647 : Int32) < lv then (0 : Int32) else (1 : Int32)) = (1 : Int32) := if_neg (own_mx lv)
        have f618 := (Nat.le_trans K601 K608q.1)
        obtain ⟨fs, hr, hrun, hended, -, hW1, hW2, hW3⟩ := X613.leaveW S601 (by rw [K613q]; exact f618) (v := some (.int (1 : Int32))) (fun h => by rw [Bd.returns] at h; cases h)
        refine ⟨_, _, pre600 _ ?_, hrun, hended, _, _, rfl, ?_, hW1, hW2, hW3.mono (by decide) (by decide)⟩
        · show Steps p.tables e below (T587.setTop (mkF m 124 #[iv p0_0, iv p0_1, iv p0_2, iv p0_3, iv (2 : Int32), rv s_CASCADE, rv s_DENY, iv lv, iv (1 : Int32), .unset] [(.ref b587), (.ref b587)])) _
          refine st601 _ ?_
          show Steps p.tables e below (T601.setTop (mkF m 126 #[iv p0_0, iv p0_1, iv p0_2, iv p0_3, iv (2 : Int32), rv s_CASCADE, rv s_DENY, iv lv, iv (1 : Int32), .unset] [(.ref sa601), (.ref b587), (.ref b587)])) _
          refine XS.aconstNull X601.here hx rfl (hb hby at_126) ?_
          show Steps p.tables e below (T601.setTop (mkF m 127 #[iv p0_0, iv p0_1, iv p0_2, iv p0_3, iv (2 : Int32), rv s_CASCADE, rv s_DENY, iv lv, iv (1 : Int32), .unset] [.null, (.ref sa601), (.ref b587), (.ref b587)])) _
          refine XS.aload X601.here hx rfl (hb hby at_127) rfl rfl ?_
          show Steps p.tables e below (T601.setTop (mkF m 129 #[iv p0_0, iv p0_1, iv p0_2, iv p0_3, iv (2 : Int32), rv s_CASCADE, rv s_DENY, iv lv, iv (1 : Int32), .unset] [(.ref s_DENY), .null, (.ref sa601), (.ref b587), (.ref b587)])) _
          refine XS.aload X601.here hx rfl (hb hby at_129) rfl rfl ?_
          show Steps p.tables e below (T601.setTop (mkF m 131 #[iv p0_0, iv p0_1, iv p0_2, iv p0_3, iv (2 : Int32), rv s_CASCADE, rv s_DENY, iv lv, iv (1 : Int32), .unset] [(.ref s_CASCADE), (.ref s_DENY), .null, (.ref sa601), (.ref b587), (.ref b587)])) _
          refine st608.trans ?_
          show Steps p.tables e below (T608.setTop (mkF m 134 #[iv p0_0, iv p0_1, iv p0_2, iv p0_3, iv (2 : Int32), rv s_CASCADE, rv s_DENY, iv lv, iv (1 : Int32), .unset] [(.ref b587)])) _
          refine XS.astore X608.here hx rfl (hb hby at_134) rfl rfl (l' := #[iv p0_0, iv p0_1, iv p0_2, iv p0_3, iv (2 : Int32), rv s_CASCADE, rv s_DENY, iv lv, iv (1 : Int32), rv b587]) rfl ?_
          show Steps p.tables e below (T608.setTop (mkF m 136 #[iv p0_0, iv p0_1, iv p0_2, iv p0_3, iv (2 : Int32), rv s_CASCADE, rv s_DENY, iv lv, iv (1 : Int32), rv b587] [])) _
          refine XS.aload X608.here hx rfl (hb hby at_136) rfl rfl ?_
          show Steps p.tables e below (T608.setTop (mkF m 138 #[iv p0_0, iv p0_1, iv p0_2, iv p0_3, iv (2 : Int32), rv s_CASCADE, rv s_DENY, iv lv, iv (1 : Int32), rv b587] [(.ref b587)])) _
          refine XS.iload X608.here hx rfl (hb hby at_138) rfl ?_
          show Steps p.tables e below (T608.setTop (mkF m 140 #[iv p0_0, iv p0_1, iv p0_2, iv p0_3, iv (2 : Int32), rv s_CASCADE, rv s_DENY, iv lv, iv (1 : Int32), rv b587] [(.int lv), (.ref b587)])) _
          refine st613.trans ?_
          rw [q617]
          show Steps p.tables e below (T613.setTop (mkF m 143 #[iv p0_0, iv p0_1, iv p0_2, iv p0_3, iv (2 : Int32), rv s_CASCADE, rv s_DENY, iv lv, iv (1 : Int32), rv b587] [(.int (1 : Int32))])) _
          show Steps p.tables e below (T613.setTop (mkF m 143 #[iv p0_0, iv p0_1, iv p0_2, iv p0_3, iv (2 : Int32), rv s_CASCADE, rv s_DENY, iv lv, iv (1 : Int32), rv b587] [(.int (1 : Int32))])) _
          refine XS.iload X613.here hx rfl (hb hby at_143) rfl ?_
          show Steps p.tables e below (T613.setTop (mkF m 145 #[iv p0_0, iv p0_1, iv p0_2, iv p0_3, iv (2 : Int32), rv s_CASCADE, rv s_DENY, iv lv, iv (1 : Int32), rv b587] [(.int (1 : Int32)), (.int (1 : Int32))])) _
          refine XS.icmpNo X613.here hx rfl (hb hby at_145) rfl (teq (by decide : (1 : Int32) = (1 : Int32))).2 ?_
          show Steps p.tables e below (T613.setTop (mkF m 148 #[iv p0_0, iv p0_1, iv p0_2, iv p0_3, iv (2 : Int32), rv s_CASCADE, rv s_DENY, iv lv, iv (1 : Int32), rv b587] [])) _
          refine XS.iconst X613.here hx rfl (hb hby at_148) ?_
          show Steps p.tables e below (T613.setTop (mkF m 149 #[iv p0_0, iv p0_1, iv p0_2, iv p0_3, iv (2 : Int32), rv s_CASCADE, rv s_DENY, iv lv, iv (1 : Int32), rv b587] [(.int (1 : Int32))])) _
          refine XS.goto X613.here hx rfl (pc0 := 149) (pc' := 153) rfl (hb hby at_149) (by decide) (by decide) ?_
          show Steps p.tables e below (T613.setTop (mkF m 153 #[iv p0_0, iv p0_1, iv p0_2, iv p0_3, iv (2 : Int32), rv s_CASCADE, rv s_DENY, iv lv, iv (1 : Int32), rv b587] [(.int (1 : Int32))])) _
          exact retN X613 hx (t := .boolean) Bd.returns (by simp) (hb hby at_153) hr
        · show Q_rm0 Z _ _ _ _ _ _ _ _ _ h0 n0 _ T613.heap _
          rw [K613q]
          exact ⟨rfl, N616, (K611)⟩
    · skip
      obtain ⟨T619, X619, e619, st619⟩ := getS2 X549 hx hZ hown (host := "") (Or.inl wo4) Via.refl e549 (pf_S_com_example_arbiter_arbiter_NodeRule_Sign_GRANT.ext pf_O.2) (g := (mkF m 46 #[iv p0_0, iv p0_1, iv p0_2, iv p0_3, iv (2 : Int32), rv s_CASCADE, .unset, .unset, .unset, .unset] [])) rfl (hb hby at_46)
      have pre621 : ∀ t, Steps p.tables e below (T619.setTop (mkF m 60 #[iv p0_0, iv p0_1, iv p0_2, iv p0_3, iv (2 : Int32), rv s_CASCADE, rv s_GRANT, .unset, .unset, .unset] [(.int (p0_3 &&& (1 : Int32)))])) t → Steps p.tables e below (s₁.setTop (entryFrame m #[(.int p0_0), (.int p0_1), (.int p0_2), (.int p0_3)] maxLocals)) t := by
        intro t_ k_
        refine pre551 _ ?_
        show Steps p.tables e below (T549.setTop (mkF m 43 #[iv p0_0, iv p0_1, iv p0_2, iv p0_3, iv (2 : Int32), rv s_CASCADE, .unset, .unset, .unset, .unset] [(.int (p0_1 &&& (1 : Int32)))])) _
        refine XS.ifNo X549.here hx rfl (hb hby at_43) rfl ((if0 _ _).trans (feq hc43_550).1) ?_
        show Steps p.tables e below (T549.setTop (mkF m 46 #[iv p0_0, iv p0_1, iv p0_2, iv p0_3, iv (2 : Int32), rv s_CASCADE, .unset, .unset, .unset, .unset] [])) _
        refine st619 _ ?_
        show Steps p.tables e below (T619.setTop (mkF m 49 #[iv p0_0, iv p0_1, iv p0_2, iv p0_3, iv (2 : Int32), rv s_CASCADE, .unset, .unset, .unset, .unset] [(.ref s_GRANT)])) _
        refine XS.goto X619.here hx rfl (pc0 := 49) (pc' := 55) rfl (hb hby at_49) (by decide) (by decide) ?_
        show Steps p.tables e below (T619.setTop (mkF m 55 #[iv p0_0, iv p0_1, iv p0_2, iv p0_3, iv (2 : Int32), rv s_CASCADE, .unset, .unset, .unset, .unset] [(.ref s_GRANT)])) _
        refine XS.astore X619.here hx rfl (hb hby at_55) rfl rfl (l' := #[iv p0_0, iv p0_1, iv p0_2, iv p0_3, iv (2 : Int32), rv s_CASCADE, rv s_GRANT, .unset, .unset, .unset]) rfl ?_
        show Steps p.tables e below (T619.setTop (mkF m 57 #[iv p0_0, iv p0_1, iv p0_2, iv p0_3, iv (2 : Int32), rv s_CASCADE, rv s_GRANT, .unset, .unset, .unset] [])) _
        refine XS.iloadN X619.here hx rfl (hb hby at_57) rfl ?_
        show Steps p.tables e below (T619.setTop (mkF m 58 #[iv p0_0, iv p0_1, iv p0_2, iv p0_3, iv (2 : Int32), rv s_CASCADE, rv s_GRANT, .unset, .unset, .unset] [(.int p0_3)])) _
        refine XS.iconst X619.here hx rfl (hb hby at_58) ?_
        show Steps p.tables e below (T619.setTop (mkF m 59 #[iv p0_0, iv p0_1, iv p0_2, iv p0_3, iv (2 : Int32), rv s_CASCADE, rv s_GRANT, .unset, .unset, .unset] [(.int (1 : Int32)), (.int p0_3)])) _
        refine XS.iand X619.here hx rfl (hb hby at_59) rfl ?_
        exact k_
      by_cases hc60_620 : (p0_3 &&& (1 : Int32)) = (0 : Int32)
      · skip
        obtain ⟨lv, h_lv⟩ : ∃ z : Int32, z = (p0_2 &&& (2147483647 : Int32)) := ⟨_, rfl⟩
        have hlv : 0 ≤ lv.toInt := by rw [h_lv]; first | exact own_3 _ | exact own_m _
        obtain ⟨T622, h622, X622, e622, E622, A622, D622, -, st622⟩ := newO X619 hx hZ hown wo7 wo8 wo9 e619 (g := (mkF m 120 #[iv p0_0, iv p0_1, iv p0_2, iv p0_3, iv (2 : Int32), rv s_CASCADE, rv s_GRANT, iv lv, iv (1 : Int32), .unset] [])) rfl (hb hby at_120) (by decide) (by decide)
        obtain ⟨b622, gg622⟩ : ∃ z, z = h0.size := ⟨_, rfl⟩
        rw [← gg622] at A622 D622 st622
        have ne623 : s_NO_PROP ≠ b622 := Nat.ne_of_lt (Nat.lt_of_lt_of_le pf_E_s_NO_PROP.lt (Nat.le_of_eq gg622.symm))
        have ne624 : s_GRANT ≠ b622 := Nat.ne_of_lt (Nat.lt_of_lt_of_le pf_E_s_GRANT.lt (Nat.le_of_eq gg622.symm))
        have ne625 : s_FIRST_LEVEL ≠ b622 := Nat.ne_of_lt (Nat.lt_of_lt_of_le pf_E_s_FIRST_LEVEL.lt (Nat.le_of_eq gg622.symm))
        have ne626 : s_DENY ≠ b622 := Nat.ne_of_lt (Nat.lt_of_lt_of_le pf_E_s_DENY.lt (Nat.le_of_eq gg622.symm))
        have ne627 : s_CASCADE ≠ b622 := Nat.ne_of_lt (Nat.lt_of_lt_of_le pf_E_s_CASCADE.lt (Nat.le_of_eq gg622.symm))
        have g628 : n0 ≤ b622 := Nat.le_trans Z0 (Nat.le_of_eq gg622.symm)
        have bz629 : h0.size ≤ b622 := Nat.le_trans (Keep.refl h0 []).1 (Nat.le_of_eq gg622.symm)
        have K630 : Keep h0 h622 [] := (Keep.refl h0 []).ext E622
        have f631 : Fld Z h622 b622 "com/example/arbiter/arbiter/NodeRule" "path" "Ljava/lang/String;" .null := D622 (Or.inr wo25) (ty := (.object "java/lang/String")) (by decide)
        have f632 : Fld Z h622 b622 "com/example/arbiter/arbiter/NodeRule" "operation" "Lcom/example/arbiter/arbiter/DocumentOperation;" .null := D622 (Or.inr wo27) (ty := (.object "com/example/arbiter/arbiter/DocumentOperation")) (by decide)
        have f633 : Fld Z h622 b622 "com/example/arbiter/arbiter/NodeRule" "sign" "Lcom/example/arbiter/arbiter/NodeRule$Sign;" .null := D622 (Or.inr wo29) (ty := (.object "com/example/arbiter/arbiter/NodeRule$Sign")) (by decide)
        have f634 : Fld Z h622 b622 "com/example/arbiter/arbiter/NodeRule" "propagation" "Lcom/example/arbiter/arbiter/NodeRule$Propagation;" .null := D622 (Or.inr wo31) (ty := (.object "com/example/arbiter/arbiter/NodeRule$Propagation")) (by decide)
        have pre635 : ∀ t, Steps p.tables e below (T622.setTop (mkF m 124 #[iv p0_0, iv p0_1, iv p0_2, iv p0_3, iv (2 : Int32), rv s_CASCADE, rv s_GRANT, iv lv, iv (1 : Int32), .unset] [(.ref b622), (.ref b622)])) t → Steps p.tables e below (s₁.setTop (entryFrame m #[(.int p0_0), (.int p0_1), (.int p0_2), (.int p0_3)] maxLocals)) t := by
          intro t_ k_
          refine pre621 _ ?_
          show Steps p.tables e below (T619.setTop (mkF m 60 #[iv p0_0, iv p0_1, iv p0_2, iv p0_3, iv (2 : Int32), rv s_CASCADE, rv s_GRANT, .unset, .unset, .unset] [(.int (p0_3 &&& (1 : Int32)))])) _
          refine XS.ifYes X619.here hx rfl (pc0 := 60) (pc' := 69) rfl (hb hby at_60) rfl ((if0 _ _).trans (teq hc60_620).1) (by decide) (by decide) ?_
          show Steps p.tables e below (T619.setTop (mkF m 69 #[iv p0_0, iv p0_1, iv p0_2, iv p0_3, iv (2 : Int32), rv s_CASCADE, rv s_GRANT, .unset, .unset, .unset] [])) _
          refine XS.iloadN X619.here hx rfl (hb hby at_69) rfl ?_
          show Steps p.tables e below (T619.setTop (mkF m 70 #[iv p0_0, iv p0_1, iv p0_2, iv p0_3, iv (2 : Int32), rv s_CASCADE, rv s_GRANT, .unset, .unset, .unset] [(.int p0_2)])) _
          refine X619.ldcInt hx hown (mvT hZ wo0) (g := (mkF m 70 #[iv p0_0, iv p0_1, iv p0_2, iv p0_3, iv (2 : Int32), rv s_CASCADE, rv s_GRANT, .unset, .unset, .unset] [(.int p0_2)])) rfl (hb hby at_70) _ ?_
          show Steps p.tables e below (T619.setTop (mkF m 72 #[iv p0_0, iv p0_1, iv p0_2, iv p0_3, iv (2 : Int32), rv s_CASCADE, rv s_GRANT, .unset, .unset, .unset] [(.int (2147483647 : Int32)), (.int p0_2)])) _
          refine XS.iand X619.here hx rfl (hb hby at_72) rfl ?_
          show Steps p.tables e below (T619.setTop (mkF m 73 #[iv p0_0, iv p0_1, iv p0_2, iv p0_3, iv (2 : Int32), rv s_CASCADE, rv s_GRANT, .unset, .unset, .unset] [(.int (p0_2 &&& (2147483647 : Int32)))])) _
          refine XS.istore X619.here hx rfl (hb hby at_73) rfl (l' := #[iv p0_0, iv p0_1, iv p0_2, iv p0_3, iv (2 : Int32), rv s_CASCADE, rv s_GRANT, iv (p0_2 &&& (2147483647 : Int32)), .unset, .unset]) rfl ?_
          rw [← h_lv]
          show Steps p.tables e below (T619.setTop (mkF m 75 #[iv p0_0, iv p0_1, iv p0_2, iv p0_3, iv (2 : Int32), rv s_CASCADE, rv s_GRANT, iv lv, .unset, .unset] [])) _
          show Steps p.tables e below (T619.setTop (mkF m 75 #[iv p0_0, iv p0_1, iv p0_2, iv p0_3, iv (2 : Int32), rv s_CASCADE, rv s_GRANT, iv lv, .unset, .unset] [])) _
          refine XS.iload X619.here hx rfl (hb hby at_75) rfl ?_
          show Steps p.tables e below (T619.setTop (mkF m 77 #[iv p0_0, iv p0_1, iv p0_2, iv p0_3, iv (2 : Int32), rv s_CASCADE, rv s_GRANT, iv lv, .unset, .unset] [(.int (2 : Int32))])) _
          refine XS.ifYes X619.here hx rfl (pc0 := 77) (pc' := 95) rfl (hb hby at_77) rfl ((if0 _ _).trans (feq (by decide : ¬ ((2 : Int32) = (0 : Int32)))).2) (by decide) (by decide) ?_
          show Steps p.tables e below (T619.setTop (mkF m 95 #[iv p0_0, iv p0_1, iv p0_2, iv p0_3, iv (2 : Int32), rv s_CASCADE, rv s_GRANT, iv lv, .unset, .unset] [])) _
          refine XS.iload X619.here hx rfl (hb hby at_95) rfl ?_
          show Steps p.tables e below (T619.setTop (mkF m 97 #[iv p0_0, iv p0_1, iv p0_2, iv p0_3, iv (2 : Int32), rv s_CASCADE, rv s_GRANT, iv lv, .unset, .unset] [(.int (2 : Int32))])) _
          refine XS.iconst X619.here hx rfl (hb hby at_97) ?_
          show Steps p.tables e below (T619.setTop (mkF m 98 #[iv p0_0, iv p0_1, iv p0_2, iv p0_3, iv (2 : Int32), rv s_CASCADE, rv s_GRANT, iv lv, .unset, .unset] [(.int (1 : Int32)), (.int (2 : Int32))])) _
          refine XS.icmpYes X619.here hx rfl (pc0 := 98) (pc' := 117) rfl (hb hby at_98) rfl (feq (by decide : ¬ ((2 : Int32) = (1 : Int32)))).2 (by decide) (by decide) ?_
          show Steps p.tables e below (T619.setTop (mkF m 117 #[iv p0_0, iv p0_1, iv p0_2, iv p0_3, iv (2 : Int32), rv s_CASCADE, rv s_GRANT, iv lv, .unset, .unset] [])) _
          refine XS.iconst X619.here hx rfl (hb hby at_117) ?_
          show Steps p.tables e below (T619.setTop (mkF m 118 #[iv p0_0, iv p0_1, iv p0_2, iv p0_3, iv (2 : Int32), rv s_CASCADE, rv s_GRANT, iv lv, .unset, .unset] [(.int (1 : Int32))])) _
          refine XS.istore X619.here hx rfl (hb hby at_118) rfl (l' := #[iv p0_0, iv p0_1, iv p0_2, iv p0_3, iv (2 : Int32), rv s_CASCADE, rv s_GRANT, iv lv, iv (1 : Int32), .unset]) rfl ?_
          show Steps p.tables e below (T619.setTop (mkF m 120 #[iv p0_0, iv p0_1, iv p0_2, iv p0_3, iv (2 : Int32), rv s_CASCADE, rv s_GRANT, iv lv, iv (1 : Int32), .unset] [])) _
          refine st622 _ ?_
          show Steps p.tables e below (T622.setTop (mkF m 123 #[iv p0_0, iv p0_1, iv p0_2, iv p0_3, iv (2 : Int32), rv s_CASCADE, rv s_GRANT, iv lv, iv (1 : Int32), .unset] [(.ref b622)])) _
          refine XS.dup X622.here hx rfl (hb hby at_123) rfl rfl ?_
          exact k_
        obtain ⟨sa636, T636, h636, k636, X636, e636, E636, S636, K636, hZ, hown, st636⟩ := ldcS (s := s) (vm0 := s.vm) X622 hx hZ hown wo10 (fun d hd => hw d ((by decide +kernel : ∀ d ∈ Bundle.stringAtoms, d ∈ tables_1) d hd)) e622 ((State.WarmedH.refl s).since 0) (Nat.zero_le _) (g := (mkF m 124 #[iv p0_0, iv p0_1, iv p0_2, iv p0_3, iv (2 : Int32), rv s_CASCADE, rv s_GRANT, iv lv, iv (1 : Int32), .unset] [(.ref b622), (.ref b622)])) rfl (hb hby at_124) (n := 4) (by decide) (by decide) (by decide) (by decide)
        have K637 : Keep h0 h636 [] := (K630).ext E636
        have f638 := (A622.ext E636)
        have f639 := (f631.ext E636)
        have f640 := (f632.ext E636)
        have f641 := (f633.ext E636)
        have f642 := (f634.ext E636)
        have f644 := (Nat.le_trans (Nat.le_trans Z0 E622.1) E636.1)
        obtain ⟨_, _, ⟨T643, L643, k643, n643⟩, -, X643, ⟨Lc643, hQ643, l643, y643, z643⟩, st643⟩ := X636.specialBack hx (y := MN1) rfl hown (mvT hZ wo18) (mvT hZ wo19) (mvT hZ wo20) (by decide) (backOf (W := 1) (rm1 l Z a0 hw [] b622 sa636 s_GRANT s_CASCADE h636 n0 f644 f638 g628 f639 f640 f641 f642) hZ wo20 wo9 (by decide) (by decide)) (g := (mkF m 131 #[iv p0_0, iv p0_1, iv p0_2, iv p0_3, iv (2 : Int32), rv s_CASCADE, rv s_GRANT, iv lv, iv (1 : Int32), .unset] [(.ref s_CASCADE), (.ref s_GRANT), .null, (.ref sa636), (.ref b622), (.ref b622)])) rfl (by rw [hml]; rfl) (Steps.refl _) (a := b622) (argsL := [(.ref sa636), .null, (.ref s_GRANT), (.ref s_CASCADE)]) (rest := [(.ref b622)]) (lenOf pd_2 rfl) rfl (by show 2 * 0 + _ ≤ _; exact Nat.le_of_eq rfl) (hb hby at_131) (fun _ _ => ⟨rfl, e636, (by decide : 3 + 0 ≤ _), (by decide : 12 + 0 ≤ _)⟩)
        dsimp only [Pt.U, Pt.locs, Pt.cells, Pt.slots] at X643 l643 y643 z643 st643 hQ643
        rw [l643, y643, z643] at X643
        obtain ⟨rfl, N643q, K643q, hq643_0⟩ := hQ643
        have N645 := Fr.app N0 N643q
        have K646 : Keep h0 T643.heap [] := (K637).trans K643q (allS (P := fun x => x ∈ [] ∨ h0.size ≤ x) (Or.inr bz629) all0)
        have f647 := (((pf_F_s_CASCADE_levels.ext E622).ext E636).keep K643q (ninS ne627 nin0))
        have f649 := (Nat.le_trans f644 K643q.1)
        have f650 := (f638.keep K643q)
        obtain ⟨cq648, kq648, q648a, q648b, q648c⟩ := isOf hZ rfl f650
        obtain ⟨_, _, ⟨T648, L648, k648, n648⟩, -, X648, ⟨Lc648, hQ648, l648, y648, z648⟩, st648⟩ := X643.virtualBack hx (y := MN3) (z := MN3) hown (mvT hZ wo32) (mvT hZ wo33) (notFace_of_selects (args := #[]) (mvT hZ wo35)) (mvT hZ wo35) (mvT hZ wo34) (by decide) (backOf (W := 0) (rm3 l Z a0 hw [] b622 lv s_CASCADE (2147483647 : Int32) (T643.heap) n0 f649 hq643_0 f647) hZ wo36 wo9 (by decide) (by decide)) q648a q648c (g := (mkF m 140 #[iv p0_0, iv p0_1, iv p0_2, iv p0_3, iv (2 : Int32), rv s_CASCADE, rv s_GRANT, iv lv, iv (1 : Int32), rv b622] [(.int lv), (.ref b622)])) rfl (by rw [hml]; rfl) (Steps.refl _) (argsL := [(.int lv)]) (rest := []) (lenOf pd_1 rfl) rfl (by show 2 * 0 + _ ≤ _; exact Nat.le_of_eq rfl) (hb hby at_140) (fun _ _ => ⟨rfl, rfl, (by decide : 3 + 0 ≤ _), (by decide : 12 + 0 ≤ _)⟩)
        dsimp only [Pt.U, Pt.locs, Pt.cells, Pt.slots] at X648 l648 y648 z648 st648 hQ648
        rw [l648, y648, z648] at X648
        obtain ⟨rfl, N648q, K648q⟩ := hQ648
        have N651 := Fr.app N645 N648q
        have q652 : (if (2147483647 : Int32) < lv then (0 : Int32) else (1 : Int32)) = (1 : Int32) := if_neg (own_mx lv)
        have f653 := (Nat.le_trans K636 K643q.1)
        obtain ⟨fs, hr, hrun, hended, -, hW1, hW2, hW3⟩ := X648.leaveW S636 (by rw [K648q]; exact f653) (v := some (.int (1 : Int32))) (fun h => by rw [Bd.returns] at h; cases h)
        refine ⟨_, _, pre635 _ ?_, hrun, hended, _, _, rfl, ?_, hW1, hW2, hW3.mono (by decide) (by decide)⟩
        · show Steps p.tables e below (T622.setTop (mkF m 124 #[iv p0_0, iv p0_1, iv p0_2, iv p0_3, iv (2 : Int32), rv s_CASCADE, rv s_GRANT, iv lv, iv (1 : Int32), .unset] [(.ref b622), (.ref b622)])) _
          refine st636 _ ?_
          show Steps p.tables e below (T636.setTop (mkF m 126 #[iv p0_0, iv p0_1, iv p0_2, iv p0_3, iv (2 : Int32), rv s_CASCADE, rv s_GRANT, iv lv, iv (1 : Int32), .unset] [(.ref sa636), (.ref b622), (.ref b622)])) _
          refine XS.aconstNull X636.here hx rfl (hb hby at_126) ?_
          show Steps p.tables e below (T636.setTop (mkF m 127 #[iv p0_0, iv p0_1, iv p0_2, iv p0_3, iv (2 : Int32), rv s_CASCADE, rv s_GRANT, iv lv, iv (1 : Int32), .unset] [.null, (.ref sa636), (.ref b622), (.ref b622)])) _
          refine XS.aload X636.here hx rfl (hb hby at_127) rfl rfl ?_
          show Steps p.tables e below (T636.setTop (mkF m 129 #[iv p0_0, iv p0_1, iv p0_2, iv p0_3, iv (2 : Int32), rv s_CASCADE, rv s_GRANT, iv lv, iv (1 : Int32), .unset] [(.ref s_GRANT), .null, (.ref sa636), (.ref b622), (.ref b622)])) _
          refine XS.aload X636.here hx rfl (hb hby at_129) rfl rfl ?_
          show Steps p.tables e below (T636.setTop (mkF m 131 #[iv p0_0, iv p0_1, iv p0_2, iv p0_3, iv (2 : Int32), rv s_CASCADE, rv s_GRANT, iv lv, iv (1 : Int32), .unset] [(.ref s_CASCADE), (.ref s_GRANT), .null, (.ref sa636), (.ref b622), (.ref b622)])) _
          refine st643.trans ?_
          show Steps p.tables e below (T643.setTop (mkF m 134 #[iv p0_0, iv p0_1, iv p0_2, iv p0_3, iv (2 : Int32), rv s_CASCADE, rv s_GRANT, iv lv, iv (1 : Int32), .unset] [(.ref b622)])) _
          refine XS.astore X643.here hx rfl (hb hby at_134) rfl rfl (l' := #[iv p0_0, iv p0_1, iv p0_2, iv p0_3, iv (2 : Int32), rv s_CASCADE, rv s_GRANT, iv lv, iv (1 : Int32), rv b622]) rfl ?_
          show Steps p.tables e below (T643.setTop (mkF m 136 #[iv p0_0, iv p0_1, iv p0_2, iv p0_3, iv (2 : Int32), rv s_CASCADE, rv s_GRANT, iv lv, iv (1 : Int32), rv b622] [])) _
          refine XS.aload X643.here hx rfl (hb hby at_136) rfl rfl ?_
          show Steps p.tables e below (T643.setTop (mkF m 138 #[iv p0_0, iv p0_1, iv p0_2, iv p0_3, iv (2 : Int32), rv s_CASCADE, rv s_GRANT, iv lv, iv (1 : Int32), rv b622] [(.ref b622)])) _
          refine XS.iload X643.here hx rfl (hb hby at_138) rfl ?_
          show Steps p.tables e below (T643.setTop (mkF m 140 #[iv p0_0, iv p0_1, iv p0_2, iv p0_3, iv (2 : Int32), rv s_CASCADE, rv s_GRANT, iv lv, iv (1 : Int32), rv b622] [(.int lv), (.ref b622)])) _
          refine st648.trans ?_
          rw [q652]
          show Steps p.tables e below (T648.setTop (mkF m 143 #[iv p0_0, iv p0_1, iv p0_2, iv p0_3, iv (2 : Int32), rv s_CASCADE, rv s_GRANT, iv lv, iv (1 : Int32), rv b622] [(.int (1 : Int32))])) _
          show Steps p.tables e below (T648.setTop (mkF m 143 #[iv p0_0, iv p0_1, iv p0_2, iv p0_3, iv (2 : Int32), rv s_CASCADE, rv s_GRANT, iv lv, iv (1 : Int32), rv b622] [(.int (1 : Int32))])) _
          refine XS.iload X648.here hx rfl (hb hby at_143) rfl ?_
          show Steps p.tables e below (T648.setTop (mkF m 145 #[iv p0_0, iv p0_1, iv p0_2, iv p0_3, iv (2 : Int32), rv s_CASCADE, rv s_GRANT, iv lv, iv (1 : Int32), rv b622] [(.int (1 : Int32)), (.int (1 : Int32))])) _
          refine XS.icmpNo X648.here hx rfl (hb hby at_145) rfl (teq (by decide : (1 : Int32) = (1 : Int32))).2 ?_
          show Steps p.tables e below (T648.setTop (mkF m 148 #[iv p0_0, iv p0_1, iv p0_2, iv p0_3, iv (2 : Int32), rv s_CASCADE, rv s_GRANT, iv lv, iv (1 : Int32), rv b622] [])) _
          refine XS.iconst X648.here hx rfl (hb hby at_148) ?_
          show Steps p.tables e below (T648.setTop (mkF m 149 #[iv p0_0, iv p0_1, iv p0_2, iv p0_3, iv (2 : Int32), rv s_CASCADE, rv s_GRANT, iv lv, iv (1 : Int32), rv b622] [(.int (1 : Int32))])) _
          refine XS.goto X648.here hx rfl (pc0 := 149) (pc' := 153) rfl (hb hby at_149) (by decide) (by decide) ?_
          show Steps p.tables e below (T648.setTop (mkF m 153 #[iv p0_0, iv p0_1, iv p0_2, iv p0_3, iv (2 : Int32), rv s_CASCADE, rv s_GRANT, iv lv, iv (1 : Int32), rv b622] [(.int (1 : Int32))])) _
          exact retN X648 hx (t := .boolean) Bd.returns (by simp) (hb hby at_153) hr
        · show Q_rm0 Z _ _ _ _ _ _ _ _ _ h0 n0 _ T648.heap _
          rw [K648q]
          exact ⟨rfl, N651, (K646)⟩
      · skip
        obtain ⟨lv, h_lv⟩ : ∃ z : Int32, z = (p0_2 &&& (3 : Int32)) := ⟨_, rfl⟩
        have hlv : 0 ≤ lv.toInt := by rw [h_lv]; first | exact own_3 _ | exact own_m _
        obtain ⟨T654, h654, X654, e654, E654, A654, D654, -, st654⟩ := newO X619 hx hZ hown wo7 wo8 wo9 e619 (g := (mkF m 120 #[iv p0_0, iv p0_1, iv p0_2, iv p0_3, iv (2 : Int32), rv s_CASCADE, rv s_GRANT, iv lv, iv (1 : Int32), .unset] [])) rfl (hb hby at_120) (by decide) (by decide)
        obtain ⟨b654, gg654⟩ : ∃ z, z = h0.size := ⟨_, rfl⟩
        rw [← gg654] at A654 D654 st654
        have ne655 : s_NO_PROP ≠ b654 := Nat.ne_of_lt (Nat.lt_of_lt_of_le pf_E_s_NO_PROP.lt (Nat.le_of_eq gg654.symm))
        have ne656 : s_GRANT ≠ b654 := Nat.ne_of_lt (Nat.lt_of_lt_of_le pf_E_s_GRANT.lt (Nat.le_of_eq gg654.symm))
        have ne657 : s_FIRST_LEVEL ≠ b654 := Nat.ne_of_lt (Nat.lt_of_lt_of_le pf_E_s_FIRST_LEVEL.lt (Nat.le_of_eq gg654.symm))
        have ne658 : s_DENY ≠ b654 := Nat.ne_of_lt (Nat.lt_of_lt_of_le pf_E_s_DENY.lt (Nat.le_of_eq gg654.symm))
        have ne659 : s_CASCADE ≠ b654 := Nat.ne_of_lt (Nat.lt_of_lt_of_le pf_E_s_CASCADE.lt (Nat.le_of_eq gg654.symm))
        have g660 : n0 ≤ b654 := Nat.le_trans Z0 (Nat.le_of_eq gg654.symm)
        have bz661 : h0.size ≤ b654 := Nat.le_trans (Keep.refl h0 []).1 (Nat.le_of_eq gg654.symm)
        have K662 : Keep h0 h654 [] := (Keep.refl h0 []).ext E654
        have f663 : Fld Z h654 b654 "com/example/arbiter/arbiter/NodeRule" "path" "Ljava/lang/String;" .null := D654 (Or.inr wo25) (ty := (.object "java/lang/String")) (by decide)
        have f664 : Fld Z h654 b654 "com/example/arbiter/arbiter/NodeRule" "operation" "Lcom/example/arbiter/arbiter/DocumentOperation;" .null := D654 (Or.inr wo27) (ty := (.object "com/example/arbiter/arbiter/DocumentOperation")) (by decide)
        have f665 : Fld Z h654 b654 "com/example/arbiter/arbiter/NodeRule" "sign" "Lcom/example/arbiter/arbiter/NodeRule$Sign;" .null := D654 (Or.inr wo29) (ty := (.object "com/example/arbiter/arbiter/NodeRule$Sign")) (by decide)
        have f666 : Fld Z h654 b654 "com/example/arbiter/arbiter/NodeRule" "propagation" "Lcom/example/arbiter/arbiter/NodeRule$Propagation;" .null := D654 (Or.inr wo31) (ty := (.object "com/example/arbiter/arbiter/NodeRule$Propagation")) (by decide)
        have pre667 : ∀ t, Steps p.tables e below (T654.setTop (mkF m 124 #[iv p0_0, iv p0_1, iv p0_2, iv p0_3, iv (2 : Int32), rv s_CASCADE, rv s_GRANT, iv lv, iv (1 : Int32), .unset] [(.ref b654), (.ref b654)])) t → Steps p.tables e below (s₁.setTop (entryFrame m #[(.int p0_0), (.int p0_1), (.int p0_2), (.int p0_3)] maxLocals)) t := by
          intro t_ k_
          refine pre621 _ ?_
          show Steps p.tables e below (T619.setTop (mkF m 60 #[iv p0_0, iv p0_1, iv p0_2, iv p0_3, iv (2 : Int32), rv s_CASCADE, rv s_GRANT, .unset, .unset, .unset] [(.int (p0_3 &&& (1 : Int32)))])) _
          refine XS.ifNo X619.here hx rfl (hb hby at_60) rfl ((if0 _ _).trans (feq hc60_620).1) ?_
          show Steps p.tables e below (T619.setTop (mkF m 63 #[iv p0_0, iv p0_1, iv p0_2, iv p0_3, iv (2 : Int32), rv s_CASCADE, rv s_GRANT, .unset, .unset, .unset] [])) _
          refine XS.iloadN X619.here hx rfl (hb hby at_63) rfl ?_
          show Steps p.tables e below (T619.setTop (mkF m 64 #[iv p0_0, iv p0_1, iv p0_2, iv p0_3, iv (2 : Int32), rv s_CASCADE, rv s_GRANT, .unset, .unset, .unset] [(.int p0_2)])) _
          refine XS.iconst X619.here hx rfl (hb hby at_64) ?_
          show Steps p.tables e below (T619.setTop (mkF m 65 #[iv p0_0, iv p0_1, iv p0_2, iv p0_3, iv (2 : Int32), rv s_CASCADE, rv s_GRANT, .unset, .unset, .unset] [(.int (3 : Int32)), (.int p0_2)])) _
          refine XS.iand X619.here hx rfl (hb hby at_65) rfl ?_
          show Steps p.tables e below (T619.setTop (mkF m 66 #[iv p0_0, iv p0_1, iv p0_2, iv p0_3, iv (2 : Int32), rv s_CASCADE, rv s_GRANT, .unset, .unset, .unset] [(.int (p0_2 &&& (3 : Int32)))])) _
          refine XS.goto X619.here hx rfl (pc0 := 66) (pc' := 73) rfl (hb hby at_66) (by decide) (by decide) ?_
          show Steps p.tables e below (T619.setTop (mkF m 73 #[iv p0_0, iv p0_1, iv p0_2, iv p0_3, iv (2 : Int32), rv s_CASCADE, rv s_GRANT, .unset, .unset, .unset] [(.int (p0_2 &&& (3 : Int32)))])) _
          refine XS.istore X619.here hx rfl (hb hby at_73) rfl (l' := #[iv p0_0, iv p0_1, iv p0_2, iv p0_3, iv (2 : Int32), rv s_CASCADE, rv s_GRANT, iv (p0_2 &&& (3 : Int32)), .unset, .unset]) rfl ?_
          rw [← h_lv]
          show Steps p.tables e below (T619.setTop (mkF m 75 #[iv p0_0, iv p0_1, iv p0_2, iv p0_3, iv (2 : Int32), rv s_CASCADE, rv s_GRANT, iv lv, .unset, .unset] [])) _
          show Steps p.tables e below (T619.setTop (mkF m 75 #[iv p0_0, iv p0_1, iv p0_2, iv p0_3, iv (2 : Int32), rv s_CASCADE, rv s_GRANT, iv lv, .unset, .unset] [])) _
          refine XS.iload X619.here hx rfl (hb hby at_75) rfl ?_
          show Steps p.tables e below (T619.setTop (mkF m 77 #[iv p0_0, iv p0_1, iv p0_2, iv p0_3, iv (2 : Int32), rv s_CASCADE, rv s_GRANT, iv lv, .unset, .unset] [(.int (2 : Int32))])) _
          refine XS.ifYes X619.here hx rfl (pc0 := 77) (pc' := 95) rfl (hb hby at_77) rfl ((if0 _ _).trans (feq (by decide : ¬ ((2 : Int32) = (0 : Int32)))).2) (by decide) (by decide) ?_
          show Steps p.tables e below (T619.setTop (mkF m 95 #[iv p0_0, iv p0_1, iv p0_2, iv p0_3, iv (2 : Int32), rv s_CASCADE, rv s_GRANT, iv lv, .unset, .unset] [])) _
          refine XS.iload X619.here hx rfl (hb hby at_95) rfl ?_
          show Steps p.tables e below (T619.setTop (mkF m 97 #[iv p0_0, iv p0_1, iv p0_2, iv p0_3, iv (2 : Int32), rv s_CASCADE, rv s_GRANT, iv lv, .unset, .unset] [(.int (2 : Int32))])) _
          refine XS.iconst X619.here hx rfl (hb hby at_97) ?_
          show Steps p.tables e below (T619.setTop (mkF m 98 #[iv p0_0, iv p0_1, iv p0_2, iv p0_3, iv (2 : Int32), rv s_CASCADE, rv s_GRANT, iv lv, .unset, .unset] [(.int (1 : Int32)), (.int (2 : Int32))])) _
          refine XS.icmpYes X619.here hx rfl (pc0 := 98) (pc' := 117) rfl (hb hby at_98) rfl (feq (by decide : ¬ ((2 : Int32) = (1 : Int32)))).2 (by decide) (by decide) ?_
          show Steps p.tables e below (T619.setTop (mkF m 117 #[iv p0_0, iv p0_1, iv p0_2, iv p0_3, iv (2 : Int32), rv s_CASCADE, rv s_GRANT, iv lv, .unset, .unset] [])) _
          refine XS.iconst X619.here hx rfl (hb hby at_117) ?_
          show Steps p.tables e below (T619.setTop (mkF m 118 #[iv p0_0, iv p0_1, iv p0_2, iv p0_3, iv (2 : Int32), rv s_CASCADE, rv s_GRANT, iv lv, .unset, .unset] [(.int (1 : Int32))])) _
          refine XS.istore X619.here hx rfl (hb hby at_118) rfl (l' := #[iv p0_0, iv p0_1, iv p0_2, iv p0_3, iv (2 : Int32), rv s_CASCADE, rv s_GRANT, iv lv, iv (1 : Int32), .unset]) rfl ?_
          show Steps p.tables e below (T619.setTop (mkF m 120 #[iv p0_0, iv p0_1, iv p0_2, iv p0_3, iv (2 : Int32), rv s_CASCADE, rv s_GRANT, iv lv, iv (1 : Int32), .unset] [])) _
          refine st654 _ ?_
          show Steps p.tables e below (T654.setTop (mkF m 123 #[iv p0_0, iv p0_1, iv p0_2, iv p0_3, iv (2 : Int32), rv s_CASCADE, rv s_GRANT, iv lv, iv (1 : Int32), .unset] [(.ref b654)])) _
          refine XS.dup X654.here hx rfl (hb hby at_123) rfl rfl ?_
          exact k_
        obtain ⟨sa668, T668, h668, k668, X668, e668, E668, S668, K668, hZ, hown, st668⟩ := ldcS (s := s) (vm0 := s.vm) X654 hx hZ hown wo10 (fun d hd => hw d ((by decide +kernel : ∀ d ∈ Bundle.stringAtoms, d ∈ tables_1) d hd)) e654 ((State.WarmedH.refl s).since 0) (Nat.zero_le _) (g := (mkF m 124 #[iv p0_0, iv p0_1, iv p0_2, iv p0_3, iv (2 : Int32), rv s_CASCADE, rv s_GRANT, iv lv, iv (1 : Int32), .unset] [(.ref b654), (.ref b654)])) rfl (hb hby at_124) (n := 4) (by decide) (by decide) (by decide) (by decide)
        have K669 : Keep h0 h668 [] := (K662).ext E668
        have f670 := (A654.ext E668)
        have f671 := (f663.ext E668)
        have f672 := (f664.ext E668)
        have f673 := (f665.ext E668)
        have f674 := (f666.ext E668)
        have f676 := (Nat.le_trans (Nat.le_trans Z0 E654.1) E668.1)
        obtain ⟨_, _, ⟨T675, L675, k675, n675⟩, -, X675, ⟨Lc675, hQ675, l675, y675, z675⟩, st675⟩ := X668.specialBack hx (y := MN1) rfl hown (mvT hZ wo18) (mvT hZ wo19) (mvT hZ wo20) (by decide) (backOf (W := 1) (rm1 l Z a0 hw [] b654 sa668 s_GRANT s_CASCADE h668 n0 f676 f670 g660 f671 f672 f673 f674) hZ wo20 wo9 (by decide) (by decide)) (g := (mkF m 131 #[iv p0_0, iv p0_1, iv p0_2, iv p0_3, iv (2 : Int32), rv s_CASCADE, rv s_GRANT, iv lv, iv (1 : Int32), .unset] [(.ref s_CASCADE), (.ref s_GRANT), .null, (.ref sa668), (.ref b654), (.ref b654)])) rfl (by rw [hml]; rfl) (Steps.refl _) (a := b654) (argsL := [(.ref sa668), .null, (.ref s_GRANT), (.ref s_CASCADE)]) (rest := [(.ref b654)]) (lenOf pd_2 rfl) rfl (by show 2 * 0 + _ ≤ _; exact Nat.le_of_eq rfl) (hb hby at_131) (fun _ _ => ⟨rfl, e668, (by decide : 3 + 0 ≤ _), (by decide : 12 + 0 ≤ _)⟩)
        dsimp only [Pt.U, Pt.locs, Pt.cells, Pt.slots] at X675 l675 y675 z675 st675 hQ675
        rw [l675, y675, z675] at X675
        obtain ⟨rfl, N675q, K675q, hq675_0⟩ := hQ675
        have N677 := Fr.app N0 N675q
        have K678 : Keep h0 T675.heap [] := (K669).trans K675q (allS (P := fun x => x ∈ [] ∨ h0.size ≤ x) (Or.inr bz661) all0)
        have f679 := (((pf_F_s_CASCADE_levels.ext E654).ext E668).keep K675q (ninS ne659 nin0))
        have f681 := (Nat.le_trans f676 K675q.1)
        have f682 := (f670.keep K675q)
        obtain ⟨cq680, kq680, q680a, q680b, q680c⟩ := isOf hZ rfl f682
        obtain ⟨_, _, ⟨T680, L680, k680, n680⟩, -, X680, ⟨Lc680, hQ680, l680, y680, z680⟩, st680⟩ := X675.virtualBack hx (y := MN3) (z := MN3) hown (mvT hZ wo32) (mvT hZ wo33) (notFace_of_selects (args := #[]) (mvT hZ wo35)) (mvT hZ wo35) (mvT hZ wo34) (by decide) (backOf (W := 0) (rm3 l Z a0 hw [] b654 lv s_CASCADE (2147483647 : Int32) (T675.heap) n0 f681 hq675_0 f679) hZ wo36 wo9 (by decide) (by decide)) q680a q680c (g := (mkF m 140 #[iv p0_0, iv p0_1, iv p0_2, iv p0_3, iv (2 : Int32), rv s_CASCADE, rv s_GRANT, iv lv, iv (1 : Int32), rv b654] [(.int lv), (.ref b654)])) rfl (by rw [hml]; rfl) (Steps.refl _) (argsL := [(.int lv)]) (rest := []) (lenOf pd_1 rfl) rfl (by show 2 * 0 + _ ≤ _; exact Nat.le_of_eq rfl) (hb hby at_140) (fun _ _ => ⟨rfl, rfl, (by decide : 3 + 0 ≤ _), (by decide : 12 + 0 ≤ _)⟩)
        dsimp only [Pt.U, Pt.locs, Pt.cells, Pt.slots] at X680 l680 y680 z680 st680 hQ680
        rw [l680, y680, z680] at X680
        obtain ⟨rfl, N680q, K680q⟩ := hQ680
        have N683 := Fr.app N677 N680q
        have q684 : (if (2147483647 : Int32) < lv then (0 : Int32) else (1 : Int32)) = (1 : Int32) := if_neg (own_mx lv)
        have f685 := (Nat.le_trans K668 K675q.1)
        obtain ⟨fs, hr, hrun, hended, -, hW1, hW2, hW3⟩ := X680.leaveW S668 (by rw [K680q]; exact f685) (v := some (.int (1 : Int32))) (fun h => by rw [Bd.returns] at h; cases h)
        refine ⟨_, _, pre667 _ ?_, hrun, hended, _, _, rfl, ?_, hW1, hW2, hW3.mono (by decide) (by decide)⟩
        · show Steps p.tables e below (T654.setTop (mkF m 124 #[iv p0_0, iv p0_1, iv p0_2, iv p0_3, iv (2 : Int32), rv s_CASCADE, rv s_GRANT, iv lv, iv (1 : Int32), .unset] [(.ref b654), (.ref b654)])) _
          refine st668 _ ?_
          show Steps p.tables e below (T668.setTop (mkF m 126 #[iv p0_0, iv p0_1, iv p0_2, iv p0_3, iv (2 : Int32), rv s_CASCADE, rv s_GRANT, iv lv, iv (1 : Int32), .unset] [(.ref sa668), (.ref b654), (.ref b654)])) _
          refine XS.aconstNull X668.here hx rfl (hb hby at_126) ?_
          show Steps p.tables e below (T668.setTop (mkF m 127 #[iv p0_0, iv p0_1, iv p0_2, iv p0_3, iv (2 : Int32), rv s_CASCADE, rv s_GRANT, iv lv, iv (1 : Int32), .unset] [.null, (.ref sa668), (.ref b654), (.ref b654)])) _
          refine XS.aload X668.here hx rfl (hb hby at_127) rfl rfl ?_
          show Steps p.tables e below (T668.setTop (mkF m 129 #[iv p0_0, iv p0_1, iv p0_2, iv p0_3, iv (2 : Int32), rv s_CASCADE, rv s_GRANT, iv lv, iv (1 : Int32), .unset] [(.ref s_GRANT), .null, (.ref sa668), (.ref b654), (.ref b654)])) _
          refine XS.aload X668.here hx rfl (hb hby at_129) rfl rfl ?_
          show Steps p.tables e below (T668.setTop (mkF m 131 #[iv p0_0, iv p0_1, iv p0_2, iv p0_3, iv (2 : Int32), rv s_CASCADE, rv s_GRANT, iv lv, iv (1 : Int32), .unset] [(.ref s_CASCADE), (.ref s_GRANT), .null, (.ref sa668), (.ref b654), (.ref b654)])) _
          refine st675.trans ?_
          show Steps p.tables e below (T675.setTop (mkF m 134 #[iv p0_0, iv p0_1, iv p0_2, iv p0_3, iv (2 : Int32), rv s_CASCADE, rv s_GRANT, iv lv, iv (1 : Int32), .unset] [(.ref b654)])) _
          refine XS.astore X675.here hx rfl (hb hby at_134) rfl rfl (l' := #[iv p0_0, iv p0_1, iv p0_2, iv p0_3, iv (2 : Int32), rv s_CASCADE, rv s_GRANT, iv lv, iv (1 : Int32), rv b654]) rfl ?_
          show Steps p.tables e below (T675.setTop (mkF m 136 #[iv p0_0, iv p0_1, iv p0_2, iv p0_3, iv (2 : Int32), rv s_CASCADE, rv s_GRANT, iv lv, iv (1 : Int32), rv b654] [])) _
          refine XS.aload X675.here hx rfl (hb hby at_136) rfl rfl ?_
          show Steps p.tables e below (T675.setTop (mkF m 138 #[iv p0_0, iv p0_1, iv p0_2, iv p0_3, iv (2 : Int32), rv s_CASCADE, rv s_GRANT, iv lv, iv (1 : Int32), rv b654] [(.ref b654)])) _
          refine XS.iload X675.here hx rfl (hb hby at_138) rfl ?_
          show Steps p.tables e below (T675.setTop (mkF m 140 #[iv p0_0, iv p0_1, iv p0_2, iv p0_3, iv (2 : Int32), rv s_CASCADE, rv s_GRANT, iv lv, iv (1 : Int32), rv b654] [(.int lv), (.ref b654)])) _
          refine st680.trans ?_
          rw [q684]
          show Steps p.tables e below (T680.setTop (mkF m 143 #[iv p0_0, iv p0_1, iv p0_2, iv p0_3, iv (2 : Int32), rv s_CASCADE, rv s_GRANT, iv lv, iv (1 : Int32), rv b654] [(.int (1 : Int32))])) _
          show Steps p.tables e below (T680.setTop (mkF m 143 #[iv p0_0, iv p0_1, iv p0_2, iv p0_3, iv (2 : Int32), rv s_CASCADE, rv s_GRANT, iv lv, iv (1 : Int32), rv b654] [(.int (1 : Int32))])) _
          refine XS.iload X680.here hx rfl (hb hby at_143) rfl ?_
          show Steps p.tables e below (T680.setTop (mkF m 145 #[iv p0_0, iv p0_1, iv p0_2, iv p0_3, iv (2 : Int32), rv s_CASCADE, rv s_GRANT, iv lv, iv (1 : Int32), rv b654] [(.int (1 : Int32)), (.int (1 : Int32))])) _
          refine XS.icmpNo X680.here hx rfl (hb hby at_145) rfl (teq (by decide : (1 : Int32) = (1 : Int32))).2 ?_
          show Steps p.tables e below (T680.setTop (mkF m 148 #[iv p0_0, iv p0_1, iv p0_2, iv p0_3, iv (2 : Int32), rv s_CASCADE, rv s_GRANT, iv lv, iv (1 : Int32), rv b654] [])) _
          refine XS.iconst X680.here hx rfl (hb hby at_148) ?_
          show Steps p.tables e below (T680.setTop (mkF m 149 #[iv p0_0, iv p0_1, iv p0_2, iv p0_3, iv (2 : Int32), rv s_CASCADE, rv s_GRANT, iv lv, iv (1 : Int32), rv b654] [(.int (1 : Int32))])) _
          refine XS.goto X680.here hx rfl (pc0 := 149) (pc' := 153) rfl (hb hby at_149) (by decide) (by decide) ?_
          show Steps p.tables e below (T680.setTop (mkF m 153 #[iv p0_0, iv p0_1, iv p0_2, iv p0_3, iv (2 : Int32), rv s_CASCADE, rv s_GRANT, iv lv, iv (1 : Int32), rv b654] [(.int (1 : Int32))])) _
          exact retN X680 hx (t := .boolean) Bd.returns (by simp) (hb hby at_153) hr
        · show Q_rm0 Z _ _ _ _ _ _ _ _ _ h0 n0 _ T680.heap _
          rw [K680q]
          exact ⟨rfl, N683, (K678)⟩
set_option maxRecDepth 65536 in
set_option maxHeartbeats 40000000 in
theorem comes_1 {Post : Tables → Env → Array Value → State → Outcome → State → Prop} (hpost : ∀ tb e args s v u, (limb_1_1.after args s (.returned v) u = true ∧ limb_1_2.after args s (.returned v) u = true ∧ True) → FramedW s (.returned v) u (Jvm.fieldLocs frame_1_writes args s ++ Jvm.arrayLocs frame_1_arrays args s ++ Jvm.staticLocs frame_1_statics s) 16 1152 → Post tb e args s (.returned v) u) :
    ArmFor flags0 classFile x code maxLocals ret World_1 tables_1 room_1 Calls_1 rest_1 Pre_1 Post := by
  intro l hfl _ _ p e ha hc hk s m args below hf hA hF happ hP
  obtain ⟨hcalls, hrest, hpre⟩ := hP
  obtain ⟨-, -, -, hnamed, -, -, -, hat⟩ := (Spec.applies_iff hf).mp happ
  obtain ⟨hg, hn⟩ := and_e (Cond.before_iff.mp (show (Jvm.Cond.and given_1 narrow_1).before args s = true from hpre))
  obtain ⟨g1, g2⟩ := and_e hg
  obtain ⟨g3, g4⟩ := and_e g2
  obtain ⟨g5, g6⟩ := and_e g4
  obtain ⟨g7, g8⟩ := and_e g6
  obtain ⟨w0, w1, w2, w3, rfl⟩ : ∃ w0 w1 w2 w3 : Value, args = #[w0, w1, w2, w3] := by
    have hs : args.size = 4 := by simpa [Cond.value, given_1] using g1
    obtain ⟨L⟩ := args
    match L, hs with
    | [w0, w1, w2, w3], _ => exact ⟨w0, w1, w2, w3, rfl⟩
  have hw := fun d (hd : d ∈ tables_1) => atoms_spec (ws := Jvm.Cond.code x code maxLocals ret :: tables_1) hat d (List.mem_cons_of_mem _ hd)
  have hfit : Fit s := fun {y c} hc i hi => by
    obtain ⟨ha, rfl⟩ := Array.getElem?_eq_some_iff.mp hc
    have q := List.all_eq_true.mp ((Array.all_eq_true_iff_forall_mem.mp hF) _ (Array.getElem_mem ha)) i (List.mem_range.mpr hi)
    simpa [Array.getElem?_eq_getElem hi] using q
  obtain ⟨i0, ei0⟩ := is_v g3
  obtain rfl : w0 = (.int i0) := Option.some.inj ei0
  obtain ⟨i1, ei1⟩ := is_v g5
  obtain rfl : w1 = (.int i1) := Option.some.inj ei1
  obtain ⟨i2, ei2⟩ := is_v g7
  obtain rfl : w2 = (.int i2) := Option.some.inj ei2
  obtain ⟨i3, ei3⟩ := is_v g8
  obtain rfl : w3 = (.int i3) := Option.some.inj ei3
  obtain ⟨hn1a, hn1b⟩ := and_e hn
  obtain ⟨hn2a, hn2b⟩ := and_e hn1b
  obtain ⟨hn3a, hn3b⟩ := and_e hn2b
  obtain ⟨hn4a, hn4b⟩ := and_e hn3b
  obtain ⟨hn5a, hn5b⟩ := and_e hn4b
  obtain ⟨hn6a, hn6b⟩ := and_e hn5b
  obtain ⟨hn7a, hn7b⟩ := and_e hn6b
  obtain ⟨s_NO_PROP, es_NO_PROP⟩ := exa_v hn1a
  have Ss_NO_PROP : Sta s s.heap "com/example/arbiter/arbiter/NodeRule$Propagation" "NO_PROP" "Lcom/example/arbiter/arbiter/NodeRule$Propagation;" (.ref s_NO_PROP) := Sta.start es_NO_PROP (Or.inr ⟨(hw _ (List.mem_of_getElem? (i := 2) rfl)), (hw _ (List.mem_of_getElem? (i := 3) rfl))⟩)
  have Es_NO_PROP := Exa.start es_NO_PROP hn1a
  obtain ⟨s_GRANT, es_GRANT⟩ := exa_v hn2a
  have Ss_GRANT : Sta s s.heap "com/example/arbiter/arbiter/NodeRule$Sign" "GRANT" "Lcom/example/arbiter/arbiter/NodeRule$Sign;" (.ref s_GRANT) := Sta.start es_GRANT (Or.inr ⟨(hw _ (List.mem_of_getElem? (i := 5) rfl)), (hw _ (List.mem_of_getElem? (i := 6) rfl))⟩)
  have Es_GRANT := Exa.start es_GRANT hn2a
  have vs_NO_PROP := own_eqv hn3a
  rw [fld_at es_NO_PROP] at vs_NO_PROP
  have Fs_NO_PROP := Fld.start vs_NO_PROP
  obtain ⟨s_FIRST_LEVEL, es_FIRST_LEVEL⟩ := exa_v hn4a
  have Ss_FIRST_LEVEL : Sta s s.heap "com/example/arbiter/arbiter/NodeRule$Propagation" "FIRST_LEVEL" "Lcom/example/arbiter/arbiter/NodeRule$Propagation;" (.ref s_FIRST_LEVEL) := Sta.start es_FIRST_LEVEL (Or.inr ⟨(hw _ (List.mem_of_getElem? (i := 2) rfl)), (hw _ (List.mem_of_getElem? (i := 40) rfl))⟩)
  have Es_FIRST_LEVEL := Exa.start es_FIRST_LEVEL hn4a
  have vs_FIRST_LEVEL := own_eqv hn5a
  rw [fld_at es_FIRST_LEVEL] at vs_FIRST_LEVEL
  have Fs_FIRST_LEVEL := Fld.start vs_FIRST_LEVEL
  obtain ⟨s_DENY, es_DENY⟩ := exa_v hn6a
  have Ss_DENY : Sta s s.heap "com/example/arbiter/arbiter/NodeRule$Sign" "DENY" "Lcom/example/arbiter/arbiter/NodeRule$Sign;" (.ref s_DENY) := Sta.start es_DENY (Or.inr ⟨(hw _ (List.mem_of_getElem? (i := 5) rfl)), (hw _ (List.mem_of_getElem? (i := 42) rfl))⟩)
  have Es_DENY := Exa.start es_DENY hn6a
  obtain ⟨s_CASCADE, es_CASCADE⟩ := exa_v hn7a
  have Ss_CASCADE : Sta s s.heap "com/example/arbiter/arbiter/NodeRule$Propagation" "CASCADE" "Lcom/example/arbiter/arbiter/NodeRule$Propagation;" (.ref s_CASCADE) := Sta.start es_CASCADE (Or.inr ⟨(hw _ (List.mem_of_getElem? (i := 2) rfl)), (hw _ (List.mem_of_getElem? (i := 44) rfl))⟩)
  have Es_CASCADE := Exa.start es_CASCADE hn7a
  have vs_CASCADE := own_eqv hn7b
  rw [fld_at es_CASCADE] at vs_CASCADE
  have Fs_CASCADE := Fld.start vs_CASCADE
  obtain ⟨n, o, h1, h2, h3, _, L, rfl, ⟨rfl, N, -⟩, hq⟩ := rm0 l s _ hw tables_1 i0 i1 i2 i3 s_NO_PROP s_GRANT s_FIRST_LEVEL s_DENY s_CASCADE s.heap s.heap.size (Nat.le_refl _) (Old.start s) Ss_NO_PROP Es_NO_PROP Ss_GRANT Es_GRANT Fs_NO_PROP Ss_FIRST_LEVEL Es_FIRST_LEVEL Fs_FIRST_LEVEL Ss_DENY Es_DENY Ss_CASCADE Es_CASCADE Fs_CASCADE p e ha hc hk s m _ below hf ((Spec.applies_iff_loose hf).mp happ).1 ⟨rfl, State.Warmed39.refl s, rfl⟩ trivial
  refine ⟨n, _, h1, h2, h3, hpost _ _ _ _ _ _ ⟨Cond.after_iff.mpr rfl, Cond.after_iff.mpr (eq_i res_at (Term.int_eval (1)) rfl), trivial⟩ ⟨⟨_, rfl⟩, hq.1, hq.2.1, (hq.2.2.sift fun y hy => Or.inr (N y hy)).mono (by decide) (by decide)⟩⟩
theorem main_1_1 : Claimed_1_1 := comes_1 fun _ _ _ _ _ _ h hF => ⟨h.1, hF⟩
theorem main_1_2 : Claimed_1_2 := comes_1 fun _ _ _ _ _ _ h hF => ⟨h.2.1, hF⟩
end Jvm.Pilot.@@N@@
namespace Jvm.Pilot.@@N@@
open Jvm Jvm.ClassFile Sem Op Lib Jvm.Free Jvm.Stand Jvm.Pilot.@@N@@.Jvm.D
/-! MADE BY PROGRAM (witnessworld.py) out of the Statement's table words and the real class files: 17 classes; the members and pool entries that the words name. The judged class is class 1, her method 1. -/
namespace start1
open Jvm.ClassFile
def u (s : String) : CpInfo := .utf8 (stringToUtf16 s)
/-- a pool by its gaps: so many unusable entries, then the entry; so many at the end -/
def gap : Nat → List CpInfo → List CpInfo
  | 0, r => r
  | n + 1, r => .unusable :: gap n r
def poolList (es : List (Nat × CpInfo)) (last : Nat) : List CpInfo := es.foldr (fun e r => gap e.1 (e.2 :: r)) (gap last [])
def pool (es : List (Nat × CpInfo)) (last : Nat) : Array CpInfo := ⟨poolList es last⟩
def fileOf (pool : Array CpInfo) (this : Nat) (attrs : Array Attribute := #[]) (ms : Array MethodInfo := #[]) (fl : Nat := 33) (sup : Nat := 0) (ifs : Array Nat := #[]) (fds : Array FieldInfo := #[]) : ClassFile where
  minorVersion := 0
  majorVersion := 65
  constantPool := pool
  accessFlags := fl
  thisClass := this
  superClass := sup
  interfaces := ifs
  fields := fds
  methods := ms
  attributes := attrs
def plain (name : String) (sup : Option ClassId) : Class where
  name := name
  kind := .ordinary
  loader := none
  accessFlags := 33
  super := sup
  interfaces := #[]
  cf := none
  fields := #[]
  methods := #[]
  instanceTypes := #[]
  staticTypes := #[]
  resolved := #[]
  callSites := []
  init := .initialized
  statics := none
  mirror := none

def pool0 : Array CpInfo := pool [(5, u "<init>"), (0, u "()V"), (1, .class_ 10), (1, u "java/lang/Object")] 113

def k0c0 : Code := { maxStack := 0, maxLocals := 1, code := object_method_1_code, exceptionTable := #[], attributes := #[] }
def k0m0 : Method := { name := "<init>", desc := "()V", sig := { parameters := [], returnType := none }, accessFlags := 1, code := some k0c0 }
/-- java/lang/Object -/
def k0 : Class := { plain "java/lang/Object" none with
  accessFlags := 33
  interfaces := #[]
  cf := some (fileOf pool0 8 #[] #[{ accessFlags := 1, nameIndex := 5, descriptorIndex := 6, attributes := #[] }] 33 0 #[] #[])
  fields := #[]
  methods := #[k0m0]
  instanceTypes := #[]
  staticTypes := #[]
  resolved := Array.replicate 124 none
  statics := none }

def pool1 : Array CpInfo := pool [(2, .class_ 4), (1, u "java/lang/Object"), (0, u "<init>"), (0, u "()V"), (0, .integer 2147483647), (0, .fieldref 9 10), (0, .class_ 11), (0, .nameAndType 12 13), (0, u "com/example/arbiter/arbiter/NodeRule$Propagation"), (0, u "NO_PROP"), (0, u "Lcom/example/arbiter/arbiter/NodeRule$Propagation;"), (0, .fieldref 9 15), (0, .nameAndType 16 13), (0, u "FIRST_LEVEL"), (0, .fieldref 9 18), (0, .nameAndType 19 13), (0, u "CASCADE"), (0, .fieldref 21 22), (0, .class_ 23), (0, .nameAndType 24 25), (0, u "com/example/arbiter/arbiter/NodeRule$Sign"), (0, u "GRANT"), (0, u "Lcom/example/arbiter/arbiter/NodeRule$Sign;"), (0, .fieldref 21 27), (0, .nameAndType 28 25), (0, u "DENY"), (0, .class_ 30), (0, u "com/example/arbiter/arbiter/NodeRule"), (0, .string 32), (0, u "a"), (0, .methodref 29 34), (0, .nameAndType 5 35), (0, u "(Ljava/lang/String;Lcom/example/arbiter/arbiter/DocumentOperation;Lcom/example/arbiter/arbiter/NodeRule$Sign;Lcom/example/arbiter/arbiter/NodeRule$Propagation;)V"), (0, .methodref 29 37), (0, .nameAndType 38 39), (0, u "covers"), (0, u "(I)Z"), (0, .class_ 41), (0, u "com/example/arbiter/arbiter/NodeRuleCoversPinLaw"), (2, u "law"), (0, u "(IIII)Z")] 6

def k1m0 : Method := { name := "<init>", desc := "()V", sig := { parameters := [], returnType := none }, accessFlags := 1, code := none }
def k1c1 : Code := { maxStack := 6, maxLocals := 10, code := code, exceptionTable := #[], attributes := #[] }
def k1m1 : Method := { name := "law", desc := "(IIII)Z", sig := { parameters := [.int, .int, .int, .int], returnType := some .boolean }, accessFlags := 9, code := some k1c1 }
/-- com/example/arbiter/arbiter/NodeRuleCoversPinLaw -/
def k1 : Class := { plain "com/example/arbiter/arbiter/NodeRuleCoversPinLaw" (some 0) with
  accessFlags := 49
  interfaces := #[]
  cf := some (fileOf pool1 40 #[] #[{ accessFlags := 1, nameIndex := 5, descriptorIndex := 6, attributes := #[] }, { accessFlags := 9, nameIndex := 44, descriptorIndex := 45, attributes := #[] }] 49 2 #[] #[])
  fields := #[]
  methods := #[k1m0, k1m1]
  instanceTypes := #[]
  staticTypes := #[]
  resolved := Array.replicate 52 none
  statics := none }

def pool2 : Array CpInfo := pool [(1, .class_ 2), (0, u "java/lang/constant/Constable"), (0, .class_ 4), (0, u "java/lang/Object")] 6

/-- java/lang/constant/Constable -/
def k2 : Class := { plain "java/lang/constant/Constable" (some 0) with
  accessFlags := 1537
  interfaces := #[]
  cf := some (fileOf pool2 1 #[] #[] 1537 3 #[] #[])
  fields := #[]
  methods := #[]
  instanceTypes := #[]
  staticTypes := #[]
  resolved := Array.replicate 11 none
  statics := none }

def pool3 : Array CpInfo := pool [(1, .class_ 2), (0, u "java/lang/Comparable"), (0, .class_ 4), (0, u "java/lang/Object")] 7

/-- java/lang/Comparable -/
def k3 : Class := { plain "java/lang/Comparable" (some 0) with
  accessFlags := 1537
  interfaces := #[]
  cf := some (fileOf pool3 1 #[] #[] 1537 3 #[] #[])
  fields := #[]
  methods := #[]
  instanceTypes := #[]
  staticTypes := #[]
  resolved := Array.replicate 12 none
  statics := none }

def pool4 : Array CpInfo := pool [(1, .class_ 2), (0, u "java/io/Serializable"), (0, .class_ 4), (0, u "java/lang/Object")] 2

/-- java/io/Serializable -/
def k4 : Class := { plain "java/io/Serializable" (some 0) with
  accessFlags := 1537
  interfaces := #[]
  cf := some (fileOf pool4 1 #[] #[] 1537 3 #[] #[])
  fields := #[]
  methods := #[]
  instanceTypes := #[]
  staticTypes := #[]
  resolved := Array.replicate 7 none
  statics := none }

def pool5 : Array CpInfo := pool [(2, .class_ 4), (1, u "java/lang/Enum"), (0, u "name"), (0, u "Ljava/lang/String;"), (2, u "ordinal"), (0, u "I"), (1, .class_ 14), (1, u "java/lang/Object"), (4, u "hash"), (86, .class_ 108), (1, u "java/lang/Enum$EnumDesc"), (2, .class_ 112), (0, u "java/lang/constant/Constable"), (0, .class_ 114), (0, u "java/lang/Comparable"), (0, .class_ 116), (0, u "java/io/Serializable")] 87

/-- java/lang/Enum -/
def k5 : Class := { plain "java/lang/Enum" (some 0) with
  accessFlags := 1057
  interfaces := #[2, 3, 4]
  cf := some (fileOf pool5 2 #[.nestMembers #[106]] #[] 1057 12 #[111, 113, 115] #[{ accessFlags := 18, nameIndex := 5, descriptorIndex := 6, attributes := #[] }, { accessFlags := 18, nameIndex := 9, descriptorIndex := 10, attributes := #[] }, { accessFlags := 2, nameIndex := 19, descriptorIndex := 10, attributes := #[] }])
  fields := #[{ name := "name", type := (.object "java/lang/String"), accessFlags := 18, slot := 0, constantValue := 0 }, { name := "ordinal", type := .int, accessFlags := 18, slot := 1, constantValue := 0 }, { name := "hash", type := .int, accessFlags := 2, slot := 2, constantValue := 0 }]
  methods := #[]
  instanceTypes := #[(.object "java/lang/String"), .int, .int]
  staticTypes := #[]
  resolved := Array.replicate 204 none
  statics := none }

def pool6 : Array CpInfo := pool [(1, .class_ 2), (0, u "com/example/arbiter/arbiter/NodeRule$Propagation"), (2, u "NO_PROP"), (0, u "Lcom/example/arbiter/arbiter/NodeRule$Propagation;"), (2, u "FIRST_LEVEL"), (2, u "CASCADE"), (2, u "$VALUES"), (0, u "[Lcom/example/arbiter/arbiter/NodeRule$Propagation;"), (6, .class_ 25), (1, u "java/lang/Enum"), (8, u "written"), (0, u "Ljava/lang/String;"), (2, u "levels"), (0, u "I"), (33, .class_ 74), (0, u "com/example/arbiter/arbiter/NodeRule")] 2

/-- com/example/arbiter/arbiter/NodeRule$Propagation -/
def k6 : Class := { plain "com/example/arbiter/arbiter/NodeRule$Propagation" (some 5) with
  accessFlags := 16432
  interfaces := #[]
  cf := some (fileOf pool6 1 #[.nestHost 73] #[] 16432 23 #[] #[{ accessFlags := 16409, nameIndex := 5, descriptorIndex := 6, attributes := #[] }, { accessFlags := 16409, nameIndex := 9, descriptorIndex := 6, attributes := #[] }, { accessFlags := 16409, nameIndex := 12, descriptorIndex := 6, attributes := #[] }, { accessFlags := 18, nameIndex := 34, descriptorIndex := 35, attributes := #[] }, { accessFlags := 18, nameIndex := 38, descriptorIndex := 39, attributes := #[] }, { accessFlags := 4122, nameIndex := 15, descriptorIndex := 16, attributes := #[] }])
  fields := #[{ name := "NO_PROP", type := (.object "com/example/arbiter/arbiter/NodeRule$Propagation"), accessFlags := 16409, slot := 0, constantValue := 0 }, { name := "FIRST_LEVEL", type := (.object "com/example/arbiter/arbiter/NodeRule$Propagation"), accessFlags := 16409, slot := 1, constantValue := 0 }, { name := "CASCADE", type := (.object "com/example/arbiter/arbiter/NodeRule$Propagation"), accessFlags := 16409, slot := 2, constantValue := 0 }, { name := "written", type := (.object "java/lang/String"), accessFlags := 18, slot := 3, constantValue := 0 }, { name := "levels", type := .int, accessFlags := 18, slot := 4, constantValue := 0 }, { name := "$VALUES", type := (.array (.object "com/example/arbiter/arbiter/NodeRule$Propagation")), accessFlags := 4122, slot := 3, constantValue := 0 }]
  methods := #[]
  instanceTypes := #[(.object "java/lang/String"), .int, .int, (.object "java/lang/String"), .int]
  staticTypes := #[(.object "com/example/arbiter/arbiter/NodeRule$Propagation"), (.object "com/example/arbiter/arbiter/NodeRule$Propagation"), (.object "com/example/arbiter/arbiter/NodeRule$Propagation"), (.array (.object "com/example/arbiter/arbiter/NodeRule$Propagation"))]
  resolved := Array.replicate 77 none
  statics := some 0 }

def pool7 : Array CpInfo := pool [(1, .class_ 2), (0, u "com/example/arbiter/arbiter/NodeRule$Sign"), (2, u "GRANT"), (0, u "Lcom/example/arbiter/arbiter/NodeRule$Sign;"), (2, u "DENY"), (2, u "$VALUES"), (0, u "[Lcom/example/arbiter/arbiter/NodeRule$Sign;"), (6, .class_ 22), (1, u "java/lang/Enum"), (8, u "written"), (0, u "Ljava/lang/String;"), (28, .class_ 62), (0, u "com/example/arbiter/arbiter/NodeRule")] 2

/-- com/example/arbiter/arbiter/NodeRule$Sign -/
def k7 : Class := { plain "com/example/arbiter/arbiter/NodeRule$Sign" (some 5) with
  accessFlags := 16432
  interfaces := #[]
  cf := some (fileOf pool7 1 #[.nestHost 61] #[] 16432 20 #[] #[{ accessFlags := 16409, nameIndex := 5, descriptorIndex := 6, attributes := #[] }, { accessFlags := 16409, nameIndex := 9, descriptorIndex := 6, attributes := #[] }, { accessFlags := 18, nameIndex := 31, descriptorIndex := 32, attributes := #[] }, { accessFlags := 4122, nameIndex := 12, descriptorIndex := 13, attributes := #[] }])
  fields := #[{ name := "GRANT", type := (.object "com/example/arbiter/arbiter/NodeRule$Sign"), accessFlags := 16409, slot := 0, constantValue := 0 }, { name := "DENY", type := (.object "com/example/arbiter/arbiter/NodeRule$Sign"), accessFlags := 16409, slot := 1, constantValue := 0 }, { name := "written", type := (.object "java/lang/String"), accessFlags := 18, slot := 3, constantValue := 0 }, { name := "$VALUES", type := (.array (.object "com/example/arbiter/arbiter/NodeRule$Sign")), accessFlags := 4122, slot := 2, constantValue := 0 }]
  methods := #[]
  instanceTypes := #[(.object "java/lang/String"), .int, .int, (.object "java/lang/String")]
  staticTypes := #[(.object "com/example/arbiter/arbiter/NodeRule$Sign"), (.object "com/example/arbiter/arbiter/NodeRule$Sign"), (.array (.object "com/example/arbiter/arbiter/NodeRule$Sign"))]
  resolved := Array.replicate 65 none
  statics := some 1 }

def pool8 : Array CpInfo := pool [(1, .methodref 2 3), (0, .class_ 4), (0, .nameAndType 5 6), (0, u "java/lang/Object"), (0, u "<init>"), (0, u "()V"), (0, .fieldref 8 9), (0, .class_ 10), (0, .nameAndType 11 12), (0, u "com/example/arbiter/arbiter/NodeRule"), (0, u "path"), (0, u "Ljava/lang/String;"), (0, .fieldref 8 14), (0, .nameAndType 15 16), (0, u "operation"), (0, u "Lcom/example/arbiter/arbiter/DocumentOperation;"), (0, .fieldref 8 18), (0, .nameAndType 19 20), (0, u "sign"), (0, u "Lcom/example/arbiter/arbiter/NodeRule$Sign;"), (0, .fieldref 8 22), (0, .nameAndType 23 24), (0, u "propagation"), (0, u "Lcom/example/arbiter/arbiter/NodeRule$Propagation;"), (58, .fieldref 84 85), (0, .class_ 86), (0, .nameAndType 87 88), (0, u "com/example/arbiter/arbiter/NodeRule$Propagation"), (0, u "levels"), (0, u "I"), (1, .class_ 92), (1, u "com/example/arbiter/arbiter/NodeRule$Sign"), (10, u "(Ljava/lang/String;Lcom/example/arbiter/arbiter/DocumentOperation;Lcom/example/arbiter/arbiter/NodeRule$Sign;Lcom/example/arbiter/arbiter/NodeRule$Propagation;)V"), (13, u "covers"), (0, u "(I)Z")] 9

def k8c0 : Code := { maxStack := 2, maxLocals := 5, code := prog_22_method_1_code, exceptionTable := #[], attributes := #[] }
def k8m0 : Method := { name := "<init>", desc := "(Ljava/lang/String;Lcom/example/arbiter/arbiter/DocumentOperation;Lcom/example/arbiter/arbiter/NodeRule$Sign;Lcom/example/arbiter/arbiter/NodeRule$Propagation;)V", sig := { parameters := [(.object "java/lang/String"), (.object "com/example/arbiter/arbiter/DocumentOperation"), (.object "com/example/arbiter/arbiter/NodeRule$Sign"), (.object "com/example/arbiter/arbiter/NodeRule$Propagation")], returnType := none }, accessFlags := 0, code := some k8c0 }
def k8c1 : Code := { maxStack := 2, maxLocals := 2, code := prog_22_method_4_code, exceptionTable := #[], attributes := #[] }
def k8m1 : Method := { name := "covers", desc := "(I)Z", sig := { parameters := [.int], returnType := some .boolean }, accessFlags := 0, code := some k8c1 }
/-- com/example/arbiter/arbiter/NodeRule -/
def k8 : Class := { plain "com/example/arbiter/arbiter/NodeRule" (some 0) with
  accessFlags := 32
  interfaces := #[]
  cf := some (fileOf pool8 8 #[.nestMembers #[84, 90]] #[{ accessFlags := 0, nameIndex := 5, descriptorIndex := 103, attributes := #[] }, { accessFlags := 0, nameIndex := 117, descriptorIndex := 118, attributes := #[] }] 32 2 #[] #[{ accessFlags := 18, nameIndex := 11, descriptorIndex := 12, attributes := #[] }, { accessFlags := 18, nameIndex := 15, descriptorIndex := 16, attributes := #[] }, { accessFlags := 18, nameIndex := 19, descriptorIndex := 20, attributes := #[] }, { accessFlags := 18, nameIndex := 23, descriptorIndex := 24, attributes := #[] }])
  fields := #[{ name := "path", type := (.object "java/lang/String"), accessFlags := 18, slot := 0, constantValue := 0 }, { name := "operation", type := (.object "com/example/arbiter/arbiter/DocumentOperation"), accessFlags := 18, slot := 1, constantValue := 0 }, { name := "sign", type := (.object "com/example/arbiter/arbiter/NodeRule$Sign"), accessFlags := 18, slot := 2, constantValue := 0 }, { name := "propagation", type := (.object "com/example/arbiter/arbiter/NodeRule$Propagation"), accessFlags := 18, slot := 3, constantValue := 0 }]
  methods := #[k8m0, k8m1]
  instanceTypes := #[(.object "java/lang/String"), (.object "com/example/arbiter/arbiter/DocumentOperation"), (.object "com/example/arbiter/arbiter/NodeRule$Sign"), (.object "com/example/arbiter/arbiter/NodeRule$Propagation")]
  staticTypes := #[]
  resolved := Array.replicate 83 none ++ #[some (.field 6 4)] ++ Array.replicate 44 none
  statics := none }

def pool9 : Array CpInfo := pool [(2, .class_ 4), (1, u "java/lang/CharSequence"), (42, .class_ 48), (0, u "java/lang/CharSequence$1CodePointIterator"), (10, .class_ 60), (0, u "java/lang/CharSequence$1CharIterator"), (5, .class_ 67), (0, u "java/lang/Object")] 63

/-- java/lang/CharSequence -/
def k9 : Class := { plain "java/lang/CharSequence" (some 0) with
  accessFlags := 1537
  interfaces := #[]
  cf := some (fileOf pool9 2 #[.nestMembers #[47, 59]] #[] 1537 66 #[] #[])
  fields := #[]
  methods := #[]
  instanceTypes := #[]
  staticTypes := #[]
  resolved := Array.replicate 131 none
  statics := none }

def pool10 : Array CpInfo := pool [(1, .class_ 2), (0, u "java/lang/constant/ConstantDesc"), (0, .class_ 4), (0, u "java/lang/Object")] 32

/-- java/lang/constant/ConstantDesc -/
def k10 : Class := { plain "java/lang/constant/ConstantDesc" (some 0) with
  accessFlags := 1537
  interfaces := #[]
  cf := some (fileOf pool10 1 #[] #[] 1537 3 #[] #[])
  fields := #[]
  methods := #[]
  instanceTypes := #[]
  staticTypes := #[]
  resolved := Array.replicate 37 none
  statics := none }

def pool11 : Array CpInfo := pool [(2, .class_ 4), (1, u "java/lang/Object"), (0, u "<init>"), (0, u "()V"), (3, .class_ 12), (1, u "java/lang/String"), (0, u "value"), (0, u "[B"), (2, u "coder"), (0, u "B"), (2, u "hash"), (0, u "I"), (2, u "hashIsZero"), (0, u "Z"), (13, u "COMPACT_STRINGS"), (534, .class_ 576), (0, u "java/lang/CharSequence"), (22, u "CASE_INSENSITIVE_ORDER"), (0, u "Ljava/util/Comparator;"), (500, u "serialPersistentFields"), (0, u "[Ljava/io/ObjectStreamField;"), (0, .class_ 1104), (0, u "java/lang/String$CaseInsensitiveComparator"), (1, .class_ 1107), (0, u "java/io/Serializable"), (0, .class_ 1109), (0, u "java/lang/Comparable"), (0, .class_ 1111), (0, u "java/lang/constant/Constable"), (0, .class_ 1113), (0, u "java/lang/constant/ConstantDesc"), (2, u "serialVersionUID"), (0, u "J"), (3, u "REPL"), (0, u "C"), (2, u "LATIN1"), (1, u "UTF16")] 323

def k11m0 : Method := { name := "<init>", desc := "()V", sig := { parameters := [], returnType := none }, accessFlags := 1, code := none }
/-- java/lang/String -/
def k11 : Class := { plain "java/lang/String" (some 0) with
  accessFlags := 49
  interfaces := #[4, 3, 9, 2, 10]
  cf := some (fileOf pool11 10 #[.nestMembers #[1103]] #[{ accessFlags := 1, nameIndex := 5, descriptorIndex := 6, attributes := #[] }] 49 2 #[1106, 1108, 575, 1110, 1112] #[{ accessFlags := 18, nameIndex := 13, descriptorIndex := 14, attributes := #[] }, { accessFlags := 18, nameIndex := 17, descriptorIndex := 18, attributes := #[] }, { accessFlags := 2, nameIndex := 21, descriptorIndex := 22, attributes := #[] }, { accessFlags := 2, nameIndex := 25, descriptorIndex := 26, attributes := #[] }, { accessFlags := 26, nameIndex := 1116, descriptorIndex := 1117, attributes := #[] }, { accessFlags := 24, nameIndex := 40, descriptorIndex := 26, attributes := #[] }, { accessFlags := 26, nameIndex := 1101, descriptorIndex := 1102, attributes := #[] }, { accessFlags := 26, nameIndex := 1121, descriptorIndex := 1122, attributes := #[] }, { accessFlags := 25, nameIndex := 599, descriptorIndex := 600, attributes := #[] }, { accessFlags := 24, nameIndex := 1125, descriptorIndex := 18, attributes := #[] }, { accessFlags := 24, nameIndex := 1127, descriptorIndex := 18, attributes := #[] }])
  fields := #[{ name := "value", type := (.array .byte), accessFlags := 18, slot := 0, constantValue := 0 }, { name := "coder", type := .byte, accessFlags := 18, slot := 1, constantValue := 0 }, { name := "hash", type := .int, accessFlags := 2, slot := 2, constantValue := 0 }, { name := "hashIsZero", type := .boolean, accessFlags := 2, slot := 3, constantValue := 0 }, { name := "serialVersionUID", type := .long, accessFlags := 26, slot := 0, constantValue := 0 }, { name := "COMPACT_STRINGS", type := .boolean, accessFlags := 24, slot := 1, constantValue := 0 }, { name := "serialPersistentFields", type := (.array (.object "java/io/ObjectStreamField")), accessFlags := 26, slot := 2, constantValue := 0 }, { name := "REPL", type := .char, accessFlags := 26, slot := 3, constantValue := 0 }, { name := "CASE_INSENSITIVE_ORDER", type := (.object "java/util/Comparator"), accessFlags := 25, slot := 4, constantValue := 0 }, { name := "LATIN1", type := .byte, accessFlags := 24, slot := 5, constantValue := 0 }, { name := "UTF16", type := .byte, accessFlags := 24, slot := 6, constantValue := 0 }]
  methods := #[k11m0]
  instanceTypes := #[(.array .byte), .byte, .int, .boolean]
  staticTypes := #[.long, .boolean, (.array (.object "java/io/ObjectStreamField")), .char, (.object "java/util/Comparator"), .byte, .byte]
  resolved := Array.replicate 1451 none
  statics := none }

def pool12 : Array CpInfo := pool [(1, u "java/lang/Cloneable"), (0, .class_ 1), (0, u "java/lang/Object"), (0, .class_ 3)] 3

/-- java/lang/Cloneable -/
def k12 : Class := { plain "java/lang/Cloneable" (some 0) with
  accessFlags := 1537
  interfaces := #[]
  cf := some (fileOf pool12 2 #[] #[] 1537 4 #[] #[])
  fields := #[]
  methods := #[]
  instanceTypes := #[]
  staticTypes := #[]
  resolved := Array.replicate 8 none
  statics := none }

/-- the primitive byte -/
def k13 : Class := { plain "byte" none with kind := .primitive 'B', accessFlags := 0x411 }
/-- [B -/
def k14 : Class := { plain "[B" (some 0) with kind := .array 13 .byte, interfaces := #[12, 4], accessFlags := 1041 }

/-- the primitive int -/
def k15 : Class := { plain "int" none with kind := .primitive 'I', accessFlags := 0x411 }
/-- [I -/
def k16 : Class := { plain "[I" (some 0) with kind := .array 15 .int, interfaces := #[12, 4], accessFlags := 1041 }

def heap : Heap := #[{ cls := 6, slots := #[.ref 2, .ref 3, .ref 4, .null], vm := .statics 6 },
  { cls := 7, slots := #[.ref 5, .ref 6, .null], vm := .statics 7 },
  { cls := 6, slots := #[.null, .int 0, .int 0, .null, .int 0], vm := .none },
  { cls := 6, slots := #[.null, .int 1, .int 0, .null, .int 1], vm := .none },
  { cls := 6, slots := #[.null, .int 2, .int 0, .null, .int 2147483647], vm := .none },
  { cls := 7, slots := #[.null, .int 0, .int 0, .null], vm := .none },
  { cls := 7, slots := #[.null, .int 1, .int 0, .null], vm := .none }]
def classes : Array Class := #[k0, k1, k2, k3, k4, k5, k6, k7, k8, k9, k10, k11, k12, k13, k14, k15, k16]
def interned : List (Array UInt16 × Addr) := []
def slotsUsed : Nat := 30
def theMethod : MethodId := ⟨1, 1⟩
def args0 : Array Value := #[.int 1, .int 1, .int 1, .int 1]
def aboutOver (below : List Frame) : State where
  vm := { classes := classes, interned := interned.toArray }
  heap := heap
  slotsUsed := slotsUsed
  threads := #[{ frames := .invoking theMethod args0 :: below }]
def below0 : List Frame := [.native { method := ⟨0, 0⟩, args := #[] }]
def about1 : State := aboutOver below0
def p0 : Program := .bare "" "" ""
def e0 : Env := launch0.env 0 0 0
theorem w_frames : about1.frames = Frame.invoking theMethod args0 :: below0 := rfl
set_option maxRecDepth 65536 in
theorem w_args : argsFit about1.vm theMethod args0 = true := by decide +kernel
set_option maxRecDepth 65536 in
theorem w_heap : heapFits about1 = true := by decide +kernel
set_option maxRecDepth 65536 in
theorem w_runnable : about1.curStatus? = some .runnable := by decide +kernel
set_option maxRecDepth 65536 in
theorem w_alone : about1.alone = true := by decide +kernel
set_option maxRecDepth 65536 in
theorem w_named : about1.methodNamed? x = some theMethod := by decide +kernel
set_option maxRecDepth 65536 in
theorem w_hears : about1.hears theMethod below0 = true := by decide +kernel
set_option maxRecDepth 65536 in
theorem w_ripe : about1.ripe theMethod args0 below0 = true := by decide +kernel
theorem w_running : about1.status = .running := rfl
set_option maxRecDepth 65536 in
theorem w_room : about1.hasRoom e0.platform room_1 = true :=
  launch0.hasRoom_least _ room_1 (by decide +kernel) (by decide +kernel) (by decide +kernel) (by decide +kernel) (by decide +kernel) (by decide +kernel)
theorem allAtoms_all (ts : List Jvm.Cond) (a : Array Jvm.Value) (st : Jvm.State) : (allAtoms ts).before a st = ts.all (fun c => c.before a st) := by
  induction ts with
  | nil => rfl
  | cons c t ih =>
    show (Jvm.Cond.and c (allAtoms t)).before a st = _
    rw [Jvm.Cond.before_and, ih, List.all_cons]
def words1 : List Jvm.Cond := Jvm.Cond.code x code maxLocals ret :: tables_1
/-- a 'code' word, met by the world's own term for the bytes: nothing is compared byte by byte -/
theorem code_word {y : MethodName} {bytes : ByteArray} {mx : Nat} {rt : Option FieldType} {a : Array Value} {s : State} {m : MethodId} {meth : Method} {c : Code} (h1 : s.methodNamed? y = some m) (h2 : s.vm.method? m = some meth) (h3 : meth.code = some c) (h4 : c.code = bytes)
    (h5 : (c.maxLocals == mx && c.exceptionTable.isEmpty && decide (c.maxStack ≤ mostOperands) && decide (meth.sig.returnType = rt) && !meth.locks && decide (parseMethodDescriptor y.desc = some meth.sig)) = true) : (Jvm.Cond.code y bytes mx rt).before a s = true := by
  simp only [Bool.and_eq_true, beq_iff_eq, Bool.not_eq_true', decide_eq_true_eq] at h5
  obtain ⟨⟨⟨⟨⟨g1, g2⟩, g3⟩, g4⟩, g5⟩, g6⟩ := h5
  simp [Cond.before, Cond.holds, Cond.value, h1, h2, h3, h4, g1, g2, g3, g4, g5, g6]
def isCode : Jvm.Cond → Bool
  | .code _ _ _ _ => true
  | _ => false
theorem all_split {L : List Jvm.Cond} {P : Jvm.Cond → Bool} (h1 : L.all (fun c => isCode c || P c) = true) (h2 : ∀ c ∈ L.filter isCode, P c = true) : L.all P = true := by
  refine List.all_eq_true.mpr fun c hc => ?_
  have h := List.all_eq_true.mp h1 c hc
  rcases Bool.eq_false_or_eq_true (isCode c) with hi | hi
  · exact h2 c (List.mem_filter.mpr ⟨hc, hi⟩)
  · simpa [hi] using h
set_option maxRecDepth 65536 in
theorem w_c0 : (Jvm.Cond.code x code maxLocals ret).before args0 about1 = true := code_word (m := ⟨1, 1⟩) (meth := k1m1) (c := k1c1) (by decide +kernel) rfl rfl rfl (by decide +kernel)
set_option maxRecDepth 65536 in
theorem w_c1 : (Jvm.Cond.code ({ cls := "com/example/arbiter/arbiter/NodeRule", name := "<init>", desc := "(Ljava/lang/String;Lcom/example/arbiter/arbiter/DocumentOperation;Lcom/example/arbiter/arbiter/NodeRule$Sign;Lcom/example/arbiter/arbiter/NodeRule$Propagation;)V" } : Jvm.MethodName) prog_22_method_1_code (5 : Nat) (Option.none : Option Jvm.ClassFile.FieldType)).before args0 about1 = true := code_word (m := ⟨8, 0⟩) (meth := k8m0) (c := k8c0) (by decide +kernel) rfl rfl rfl (by decide +kernel)
set_option maxRecDepth 65536 in
theorem w_c2 : (Jvm.Cond.code ({ cls := "java/lang/Object", name := "<init>", desc := "()V" } : Jvm.MethodName) object_method_1_code (1 : Nat) (Option.none : Option Jvm.ClassFile.FieldType)).before args0 about1 = true := code_word (m := ⟨0, 0⟩) (meth := k0m0) (c := k0c0) (by decide +kernel) rfl rfl rfl (by decide +kernel)
set_option maxRecDepth 65536 in
theorem w_c3 : (Jvm.Cond.code ({ cls := "com/example/arbiter/arbiter/NodeRule", name := "covers", desc := "(I)Z" } : Jvm.MethodName) prog_22_method_4_code (2 : Nat) (Option.some Jvm.ClassFile.FieldType.boolean)).before args0 about1 = true := code_word (m := ⟨8, 1⟩) (meth := k8m1) (c := k8c1) (by decide +kernel) rfl rfl rfl (by decide +kernel)
def codes1 : List Jvm.Cond := [Jvm.Cond.code x code maxLocals ret, Jvm.Cond.code ({ cls := "com/example/arbiter/arbiter/NodeRule", name := "<init>", desc := "(Ljava/lang/String;Lcom/example/arbiter/arbiter/DocumentOperation;Lcom/example/arbiter/arbiter/NodeRule$Sign;Lcom/example/arbiter/arbiter/NodeRule$Propagation;)V" } : Jvm.MethodName) prog_22_method_1_code (5 : Nat) (Option.none : Option Jvm.ClassFile.FieldType), Jvm.Cond.code ({ cls := "java/lang/Object", name := "<init>", desc := "()V" } : Jvm.MethodName) object_method_1_code (1 : Nat) (Option.none : Option Jvm.ClassFile.FieldType), Jvm.Cond.code ({ cls := "com/example/arbiter/arbiter/NodeRule", name := "covers", desc := "(I)Z" } : Jvm.MethodName) prog_22_method_4_code (2 : Nat) (Option.some Jvm.ClassFile.FieldType.boolean)]
set_option maxRecDepth 65536 in
theorem codes_eq : words1.filter isCode = codes1 := rfl
theorem w_codes : ∀ c ∈ words1.filter isCode, c.before args0 about1 = true := by
  rw [codes_eq]
  intro c hc
  simp only [codes1, List.mem_cons, List.not_mem_nil, or_false] at hc
  rcases hc with rfl | rfl | rfl | rfl
  · exact w_c0
  · exact w_c1
  · exact w_c2
  · exact w_c3
set_option maxRecDepth 65536 in
theorem w_t1 : (words1.take 24).all (fun c => isCode c || c.before args0 about1) = true := by decide +kernel
set_option maxRecDepth 65536 in
theorem w_t2 : (words1.drop 24).all (fun c => isCode c || c.before args0 about1) = true := by decide +kernel
theorem w_tables : (allAtoms (Jvm.Cond.code x code maxLocals ret :: tables_1)).before args0 about1 = true := by
  rw [allAtoms_all]
  show words1.all (fun c => c.before args0 about1) = true
  refine all_split ?_ w_codes
  rw [← List.take_append_drop 24 words1, List.all_append, w_t1, w_t2]
  rfl
set_option maxRecDepth 65536 in
theorem w_case : (Jvm.Cond.and given_1 narrow_1).before args0 about1 = true := by decide +kernel
theorem w_applies : (headSpec (Jvm.Cond.code x code maxLocals ret :: tables_1) room_1).applies x e0.platform about1 = true :=
  (Spec.applies_iff w_frames).mpr ⟨w_running, w_runnable, w_alone, w_named, w_hears, w_ripe, w_room, w_tables⟩
theorem atStart : AtStart classFile x code maxLocals ret World_1 tables_1 room_1 Calls_1 rest_1 Pre_1 launch0 p0 e0 about1 theMethod args0 below0 :=
  ⟨lists_1, trivial, launch0.admits_env _ _ _, launch0.least_env, fairChoices_fair.cas, fairChoices_fair.clock, w_frames, w_args, w_heap, w_applies, trivial, trivial, w_case⟩
end start1
theorem witness_1 : WitnessClaimed_1 := ⟨start1.p0, start1.e0, start1.about1, start1.theMethod, start1.args0, start1.below0, start1.atStart⟩
end Jvm.Pilot.@@N@@
