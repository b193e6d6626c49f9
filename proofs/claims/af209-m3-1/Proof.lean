import JvmDerived
import JvmDerived.Pilot.@@N@@Statement
import JvmDerived.Pilot.@@N@@Code
set_option linter.unusedVariables false
set_option linter.unusedSimpArgs false
namespace Jvm.RoadKit
open Sem ClassFile Op Lib Jvm.Stand Jvm.Free Jvm.LawKit
section New
variable {p : Program} {l : Launch} {e : Env} {R : Room} {s : State} {m : MethodId} {args : Array Value} {below : List Frame} {meth : Method} {c : Code} {T : State} {locs : List Loc} {cells slots : Nat}
theorem retI (X : Stand p l e R s m args below meth c T locs cells slots) (hx : p.tables.exec = Jvm.exec) {pc : Nat} {Ls : Array Slot} {z : Int32} {rest : List Value} (hret : meth.sig.returnType = some .int) (hd : decode c.code pc = .ok (.ireturn, 1)) {fs : List Frame}
    (hl : ∀ (f : JFrame) (acts : List Action), f.method = m → f.locked = none → f.entered = [] → (doReturn e (T.setTop f) acts (some (.int z))).1 = T.setFrames fs) : Steps p.tables e below (T.setTop (mkF m pc Ls (.int z :: rest))) (T.setFrames fs) := by
  have hm' : T.vm.method? m = some meth := X.method'
  have hn : narrow .int (.int z) = .int z := rfl
  show Steps p.tables e below (T.setTop { method := m, pc := pc, locals := Ls, stack := _ :: rest, locked := none }) _
  jvm_step X.here [X.here.top, hx, hd, hm', hret, hn]
  first | (intro acts; rw [hl _ acts rfl rfl rfl]) | rw [hl _ _ rfl rfl rfl]
  exact Steps.refl _
end New
end Jvm.RoadKit
namespace Jvm.Pilot.@@N@@
open Jvm Jvm.ClassFile Sem Op Lib Jvm.Free Jvm.Stand Jvm.LawKit Jvm.RoadKit Bundle Jvm.Pilot.@@N@@.Jvm.D
def Av (Z : State) (h : Heap) (a : Addr) (ty : FieldType) (n : Int32) (vs : List Value) (d : Value) : Prop := ∃ k, Arv Z h a k ty n vs d
theorem Av.lt {Z : State} {h : Heap} {a : Addr} {ty : FieldType} {n : Int32} {vs : List Value} {d : Value} (F : Av Z h a ty n vs d) : a < h.size := by obtain ⟨k, F⟩ := F; exact F.lt
theorem Av.ext {Z : State} {h h' : Heap} {a : Addr} {ty : FieldType} {n : Int32} {vs : List Value} {d : Value} (F : Av Z h a ty n vs d) (E : Ext h h') : Av Z h' a ty n vs d := by obtain ⟨k, F⟩ := F; exact ⟨k, F.ext E⟩
theorem Av.other {Z : State} {h h' : Heap} {a b : Addr} {ty : FieldType} {n : Int32} {vs : List Value} {d : Value} {sl : Nat} {v : Value} (F : Av Z h b ty n vs d) (W : Wr h h' a sl v) (q : b ≠ a) : Av Z h' b ty n vs d := by obtain ⟨k, F⟩ := F; exact ⟨k, F.other W q⟩
def Al (Z : State) (h : Heap) (a : Addr) (ty : FieldType) (n : Int32) : Prop := ∃ c : Cell, Arr Z h a c ty ∧ c.slots.size = n.toNatClampNeg ∧ ¬ n < 0
theorem Al.lt {Z : State} {h : Heap} {a : Addr} {ty : FieldType} {n : Int32} (F : Al Z h a ty n) : a < h.size := by obtain ⟨c, A, -⟩ := F; exact A.lt
theorem Al.ext {Z : State} {h h' : Heap} {a : Addr} {ty : FieldType} {n : Int32} (F : Al Z h a ty n) (E : Ext h h') : Al Z h' a ty n := by obtain ⟨c, A, r⟩ := F; exact ⟨c, A.ext E, r⟩
theorem Al.other {Z : State} {h h' : Heap} {a b : Addr} {ty : FieldType} {n : Int32} {sl : Nat} {v : Value} (F : Al Z h b ty n) (W : Wr h h' a sl v) (q : b ≠ a) : Al Z h' b ty n := by obtain ⟨c, A, r⟩ := F; exact ⟨c, A.other W q, r⟩
theorem Al.same {Z : State} {h h' : Heap} {a : Addr} {ty : FieldType} {n : Int32} {sl : Nat} {v : Value} (F : Al Z h a ty n) (W : Wr h h' a sl v) : Al Z h' a ty n := by obtain ⟨c, A, r⟩ := F; exact ⟨_, A.same W, by rw [sz_set]; exact r.1, r.2⟩
theorem Al.keep {Z : State} {h h' : Heap} {a : Addr} {ty : FieldType} {n : Int32} {ws : List Addr} (F : Al Z h a ty n) (K : Keep h h' ws) (q : a ∉ ws) : Al Z h' a ty n := by obtain ⟨c, A, r⟩ := F; exact ⟨c, ⟨K.2.1 a c A.1 q, A.2⟩, r⟩
theorem Av.al {Z : State} {h : Heap} {a : Addr} {ty : FieldType} {n : Int32} {vs : List Value} {d : Value} (F : Av Z h a ty n vs d) : Al Z h a ty n := by obtain ⟨k, c, A, -, r1, r2, -⟩ := F; exact ⟨c, A, r1, r2⟩
theorem Av.keep {Z : State} {h h' : Heap} {a : Addr} {ty : FieldType} {n : Int32} {vs : List Value} {d : Value} {ws : List Addr} (F : Av Z h a ty n vs d) (K : Keep h h' ws) (q : a ∉ ws) : Av Z h' a ty n vs d := by obtain ⟨k, F⟩ := F; exact ⟨k, F.keep K q⟩
abbrev MN1 : MethodName := ⟨"com/example/tailwake/tailwake/capture/Reconnection", "untilStopped", "()Lcom/example/tailwake/tailwake/capture/Reconnection;"⟩
abbrev MN2 : MethodName := ⟨"com/example/tailwake/tailwake/capture/Reconnection", "<init>", "(ILcom/example/tailwake/tailwake/capture/Reconnection$Clock;)V"⟩
abbrev MN4 : MethodName := ⟨"java/util/Objects", "requireNonNull", "(Ljava/lang/Object;)Ljava/lang/Object;"⟩
abbrev MN5 : MethodName := ⟨"com/example/tailwake/tailwake/capture/Reconnection", "timeoutMillis", "()I"⟩
abbrev MN6 : MethodName := ⟨"com/example/tailwake/tailwake/capture/Reconnection", "withClock", "(Lcom/example/tailwake/tailwake/capture/Reconnection$Clock;)Lcom/example/tailwake/tailwake/capture/Reconnection;"⟩
theorem own_eqv {args : Array Value} {s : State} {t : Term} {k : Int32} (h : (Jvm.Cond.eq t (.int k)).value args s none s [] = some true) : t.eval args s none [] s = some (.int k) := by
  cases ht : t.eval args s none [] s with
  | none => simp [Jvm.Cond.value, ht] at h
  | some v => cases v <;> simp [Jvm.Cond.value, ht, Term.eval] at h ⊢; exact h
theorem d4_0 : decode jdk_31_method_10_code 0 = .ok (.aload_n 0, 1) := by decide +kernel
theorem d4_1 : decode jdk_31_method_10_code 1 = .ok (.ifnonnull 11, 3) := by decide +kernel
theorem d4_12 : decode jdk_31_method_10_code 12 = .ok (.aload_n 0, 1) := by decide +kernel
theorem d4_13 : decode jdk_31_method_10_code 13 = .ok (.areturn, 1) := by decide +kernel
theorem pn_java_util_Objects : plainName "java/util/Objects" = true := by first | (simp [plainName, overriddenIn]; done) | decide +kernel
theorem ef_rm4 (m : MethodId) (x0 : Addr) : entryFrame m #[(.ref x0)] 1 = mkF m 0 #[rv x0] [] := by first | (simp [entryFrame, mkF, argsToLocals, Value.category]; done) | rfl
def Q_rm4 (Z : State) (a4_0 : Addr) (h0 : Heap) (n0 : Nat) (v : Option Value) (h : Heap) (L : List Loc) : Prop := v = some (.ref a4_0) ∧ Fr n0 L ∧ h = h0
set_option maxRecDepth 65536 in
set_option maxHeartbeats 40000000 in
theorem rm4 (l : Launch) (Z : State) (a0 : Array Value) (hw : ∀ d ∈ tables_1, d.before a0 Z = true) (ws : List Jvm.Cond) (a4_0 : Addr) (h0 : Heap) (n0 : Nat) (Z0 : n0 ≤ h0.size) :
    MetFree l (⟨"java/util/Objects", "requireNonNull", "(Ljava/lang/Object;)Ljava/lang/Object;"⟩ : MethodName) (head1 (Jvm.Cond.code (⟨"java/util/Objects", "requireNonNull", "(Ljava/lang/Object;)Ljava/lang/Object;"⟩ : MethodName) jdk_31_method_10_code 1 (some (.object "java/lang/Object")) :: ws) ({ frames := 0, cells := 0, slots := 0, locals := 0 } : Room)) (fun a U => a = #[(.ref a4_0)] ∧ Z.Warmed39 U.vm ∧ U.heap = h0) (fun _ _ _ _ _ => True) (fun _ U o U' => ∃ v L, o = .returned v ∧ Q_rm4 Z a4_0 h0 n0 v U'.heap L ∧ FrameEnd U o U' L ({ frames := 0, cells := 0, slots := 0, locals := 0 } : Room).cells ({ frames := 0, cells := 0, slots := 0, locals := 0 } : Room).slots) := by
  refine MetFree.of_bodySF (plainFor_of_name pn_java_util_Objects) hisR ?_
  intro p e s m args below meth c s₁ Bd hml0 hP hK
  obtain ⟨rfl, hZ, hh⟩ := hP
  have hx := Bd.exec
  have hby := Bd.bytes
  have hml : c.maxLocals = 1 := hml0
  have hown : s.vm.findClass "java/util/Objects" = some m.cls := findClass_of_methodNamed Bd.named
  have hnm := (name_of_methodNamed Bd.named Bd.method).1
  have X0 : Stand p l e ({ frames := 0, cells := 0, slots := 0, locals := 0 } : Room) s m #[(.ref a4_0)] below meth c s₁ [] 0 0 := Stand.of_body Bd
  have e0 : s₁.heap = h0 := by rw [← hh, Bd.state]; rfl
  have N0 := Fr.nil n0
  have pre0 : ∀ t, Steps p.tables e below (s₁.setTop (mkF m 0 #[rv a4_0] [])) t → Steps p.tables e below (s₁.setTop (entryFrame m #[(.ref a4_0)] 1)) t := fun t k => castTop (ef_rm4 m a4_0) k
  obtain ⟨fs, hr, hrun, hended, hW, hsame⟩ := X0.leave (v := some (.ref a4_0)) (fun h => by rw [Bd.returns] at h; cases h)
  refine ⟨_, _, pre0 _ ?_, hrun, hended, _, _, rfl, ?_, ⟨_, rfl⟩, hW, hsame.mono (by decide) (by decide)⟩
  · show Steps p.tables e below (s₁.setTop (mkF m 0 #[rv a4_0] [])) _
    refine XS.aloadN X0.here hx rfl (hb hby d4_0) rfl rfl ?_
    show Steps p.tables e below (s₁.setTop (mkF m 1 #[rv a4_0] [(.ref a4_0)])) _
    refine XS.ifnonnullYes X0.here hx rfl (pc0 := 1) (pc' := 12) rfl (hb hby d4_1) rfl (by decide) (by decide) ?_
    show Steps p.tables e below (s₁.setTop (mkF m 12 #[rv a4_0] [])) _
    refine XS.aloadN X0.here hx rfl (hb hby d4_12) rfl rfl ?_
    show Steps p.tables e below (s₁.setTop (mkF m 13 #[rv a4_0] [(.ref a4_0)])) _
    exact retOut X0 hx Bd.returns rfl (Or.inr (Or.inr (Or.inr (Or.inr ⟨rfl, rfl, rfl⟩)))) (hb hby d4_13) hr
  · show Q_rm4 Z _ h0 n0 _ s₁.heap _
    rw [e0]
    exact ⟨rfl, N0, rfl⟩
theorem d2_0 : decode prog_13_method_1_code 0 = .ok (.aload_n 0, 1) := by decide +kernel
theorem d2_1 : decode prog_13_method_1_code 1 = .ok (.invokespecial 1, 3) := by decide +kernel
theorem d2_4 : decode prog_13_method_1_code 4 = .ok (.aload_n 0, 1) := by decide +kernel
theorem d2_5 : decode prog_13_method_1_code 5 = .ok (.iload_n 1, 1) := by decide +kernel
theorem d2_6 : decode prog_13_method_1_code 6 = .ok (.putfield 7, 3) := by decide +kernel
theorem d2_9 : decode prog_13_method_1_code 9 = .ok (.aload_n 0, 1) := by decide +kernel
theorem d2_10 : decode prog_13_method_1_code 10 = .ok (.aload_n 2, 1) := by decide +kernel
theorem pd_5 : parseMethodDescriptor "(Ljava/lang/Object;)Ljava/lang/Object;" = some ⟨[(.object "java/lang/Object")], some (.object "java/lang/Object")⟩ := by decide +kernel
theorem d2_11 : decode prog_13_method_1_code 11 = .ok (.invokestatic 13, 3) := by decide +kernel
theorem d2_14 : decode prog_13_method_1_code 14 = .ok (.checkcast 19, 3) := by decide +kernel
theorem d2_17 : decode prog_13_method_1_code 17 = .ok (.putfield 21, 3) := by decide +kernel
theorem d2_20 : decode prog_13_method_1_code 20 = .ok (.return_, 1) := by decide +kernel
theorem pn_com_example_tailwake_tailwake_capture_Reconnection : plainName "com/example/tailwake/tailwake/capture/Reconnection" = true := by first | (simp [plainName, overriddenIn]; done) | decide +kernel
theorem ef_rm2 (m : MethodId) (x0 : Addr) (x1 : Int32) (x2 : Addr) : entryFrame m #[(.ref x0), (.int x1), (.ref x2)] 3 = mkF m 0 #[rv x0, iv x1, rv x2] [] := by first | (simp [entryFrame, mkF, argsToLocals, Value.category]; done) | rfl
def Q_rm2 (Z : State) (a2_0 : Addr) (tm : Int32) (ck : Addr) (h0 : Heap) (n0 : Nat) (v : Option Value) (h : Heap) (L : List Loc) : Prop := v = none ∧ Fr n0 L ∧ Keep h0 h [a2_0] ∧ (Fld Z h a2_0 "com/example/tailwake/tailwake/capture/Reconnection" "timeoutMillis" "I" (.int tm))
set_option maxRecDepth 65536 in
set_option maxHeartbeats 40000000 in
theorem rm2 (l : Launch) (Z : State) (a0 : Array Value) (hw : ∀ d ∈ tables_1, d.before a0 Z = true) (ws : List Jvm.Cond) (a2_0 : Addr) (tm : Int32) (ck : Addr) (h0 : Heap) (n0 : Nat) (Z0 : n0 ≤ h0.size) (pf_E_a2_0 : Exa Z h0 a2_0 "com/example/tailwake/tailwake/capture/Reconnection") (pf_G_a2_0 : n0 ≤ a2_0) (pf_E_ck : Exa Z h0 ck "com/example/tailwake/tailwake/capture/Reconnection$Clock$1") (pf_F_a2_0_timeoutMillis : Fld Z h0 a2_0 "com/example/tailwake/tailwake/capture/Reconnection" "timeoutMillis" "I" (.int (0 : Int32))) (pf_F_a2_0_clock : Fld Z h0 a2_0 "com/example/tailwake/tailwake/capture/Reconnection" "clock" "Lcom/example/tailwake/tailwake/capture/Reconnection$Clock;" .null) :
    MetFree l (⟨"com/example/tailwake/tailwake/capture/Reconnection", "<init>", "(ILcom/example/tailwake/tailwake/capture/Reconnection$Clock;)V"⟩ : MethodName) (head1 (Jvm.Cond.code (⟨"com/example/tailwake/tailwake/capture/Reconnection", "<init>", "(ILcom/example/tailwake/tailwake/capture/Reconnection$Clock;)V"⟩ : MethodName) prog_13_method_1_code 3 none :: ws) ({ frames := 1, cells := 0, slots := 0, locals := 13 } : Room)) (fun a U => a = #[(.ref a2_0), (.int tm), (.ref ck)] ∧ Z.Warmed39 U.vm ∧ U.heap = h0) (fun _ _ _ _ _ => True) (fun _ U o U' => ∃ v L, o = .returned v ∧ Q_rm2 Z a2_0 tm ck h0 n0 v U'.heap L ∧ FrameEnd U o U' L ({ frames := 1, cells := 0, slots := 0, locals := 13 } : Room).cells ({ frames := 1, cells := 0, slots := 0, locals := 13 } : Room).slots) := by
  refine MetFree.of_bodySF (plainFor_of_name pn_com_example_tailwake_tailwake_capture_Reconnection) hisR ?_
  intro p e s m args below meth c s₁ Bd hml0 hP hK
  obtain ⟨rfl, hZ, hh⟩ := hP
  have hx := Bd.exec
  have hby := Bd.bytes
  have hml : c.maxLocals = 3 := hml0
  have hown : s.vm.findClass "com/example/tailwake/tailwake/capture/Reconnection" = some m.cls := findClass_of_methodNamed Bd.named
  have hnm := (name_of_methodNamed Bd.named Bd.method).1
  have X0 : Stand p l e ({ frames := 1, cells := 0, slots := 0, locals := 13 } : Room) s m #[(.ref a2_0), (.int tm), (.ref ck)] below meth c s₁ [] 0 0 := Stand.of_body Bd
  have e0 : s₁.heap = h0 := by rw [← hh, Bd.state]; rfl
  have N0 := Fr.nil n0
  have pre0 : ∀ t, Steps p.tables e below (s₁.setTop (mkF m 0 #[rv a2_0, iv tm, rv ck] [])) t → Steps p.tables e below (s₁.setTop (entryFrame m #[(.ref a2_0), (.int tm), (.ref ck)] 3)) t := fun t k => castTop (ef_rm2 m a2_0 tm ck) k
  have wo5 := hw _ (List.mem_of_getElem? (i := 5) rfl)
  have wo12 := hw _ (List.mem_of_getElem? (i := 12) rfl)
  have wo13 := hw _ (List.mem_of_getElem? (i := 13) rfl)
  have wo14 := hw _ (List.mem_of_getElem? (i := 14) rfl)
  have wo15 := hw _ (List.mem_of_getElem? (i := 15) rfl)
  have wo16 := hw _ (List.mem_of_getElem? (i := 16) rfl)
  have wo17 := hw _ (List.mem_of_getElem? (i := 17) rfl)
  have wo18 := hw _ (List.mem_of_getElem? (i := 18) rfl)
  have wo19 := hw _ (List.mem_of_getElem? (i := 19) rfl)
  have wo20 := hw _ (List.mem_of_getElem? (i := 20) rfl)
  have wo21 := hw _ (List.mem_of_getElem? (i := 21) rfl)
  have wo22 := hw _ (List.mem_of_getElem? (i := 22) rfl)
  have wo23 := hw _ (List.mem_of_getElem? (i := 23) rfl)
  have wo24 := hw _ (List.mem_of_getElem? (i := 24) rfl)
  obtain ⟨T1, X1, e1, st1⟩ := initO X0 hx hZ hown wo12 wo13 wo14 e0 (g := (mkF m 1 #[rv a2_0, iv tm, rv ck] [(.ref a2_0)])) rfl (by rw [hml]; rfl) rfl (hb hby d2_1) (by decide) (W := 0) (by show 2 * 0 + _ ≤ _; exact Nat.le_of_eq rfl) (by decide)
  obtain ⟨T2, h2, X2, e2, W2, st2⟩ := putF X1 hx hZ hown (host := "") (Or.inl wo15) Via.refl e1 pf_F_a2_0_timeoutMillis pf_E_a2_0 (Or.inr ⟨wo16, rfl, hnm⟩) wo5 (ty := .int) (by decide) rfl rfl (g := (mkF m 6 #[rv a2_0, iv tm, rv ck] [(.int tm), (.ref a2_0)])) rfl rfl (hb hby d2_6)
  have K3 : Keep h0 h2 [a2_0] := (Keep.refl h0 [a2_0]).wr W2 (Or.inl (List.mem_of_getElem? (i := 0) rfl))
  have f4 : Fld Z h2 a2_0 "com/example/tailwake/tailwake/capture/Reconnection" "timeoutMillis" "I" (.int tm) := pf_F_a2_0_timeoutMillis.same W2
  have N5 := Fr.snoc X2 N0 pf_G_a2_0
  have f7 := (Nat.le_trans Z0 (Keep.of_wr W2).1)
  obtain ⟨_, _, ⟨T6, L6, k6, n6⟩, -, X6, ⟨Lc6, hQ6, l6, y6, z6⟩, st6⟩ := Jvm.LawKit.callS X2 hx (y := MN4) hown (mvT hZ wo17) (mvT hZ wo18) (mvT hZ wo19) (mvT hZ wo20) (by decide) (backOf (W := 1) (rm4 l Z a0 hw [] ck h2 n0 f7 ) hZ wo20 wo19 (by decide) (by decide)) (g := (mkF m 11 #[rv a2_0, iv tm, rv ck] [(.ref ck), (.ref a2_0)])) rfl (by rw [hml]; rfl) (argsL := [(.ref ck)]) (rest := [(.ref a2_0)]) (lenOf pd_5 rfl) rfl (by show 2 * 0 + _ ≤ _; exact Nat.le_of_eq rfl) (hb hby d2_11) (fun _ _ => ⟨rfl, e2, (by decide : 0 + 0 ≤ _), (by decide : 0 + 0 ≤ _)⟩)
  dsimp only [Pt.U, Pt.locs, Pt.cells, Pt.slots] at X6 l6 y6 z6 st6 hQ6
  subst l6 y6 z6
  obtain ⟨rfl, N6q, K6q⟩ := hQ6
  have N8 := Fr.app N5 N6q
  have f9 := (pf_E_ck.wr W2)
  obtain ⟨T10, X10, e10, st10⟩ := castY X6 hx hZ hown wo21 K6q (Ins.of_exa f9 wo22) (g := (mkF m 14 #[rv a2_0, iv tm, rv ck] [(.ref ck), (.ref a2_0)])) rfl rfl (hb hby d2_14)
  have f11 := (pf_F_a2_0_clock.other W2 (Or.inr (slot_ne (Or.inr wo24) (Or.inr wo16) (by decide) (t := (.object "com/example/tailwake/tailwake/capture/Reconnection$Clock")) (t' := .int) (by decide) (by decide))))
  have f12 := (pf_E_a2_0.wr W2)
  obtain ⟨T13, h13, X13, e13, W13, st13⟩ := putF X10 hx hZ hown (host := "") (Or.inl wo23) Via.refl e10 f11 f12 (Or.inr ⟨wo24, rfl, hnm⟩) wo5 (ty := (.object "com/example/tailwake/tailwake/capture/Reconnection$Clock")) (by decide) rfl rfl (g := (mkF m 17 #[rv a2_0, iv tm, rv ck] [(.ref ck), (.ref a2_0)])) rfl rfl (hb hby d2_17)
  have K14 : Keep h0 h13 [a2_0] := (K3).wr W13 (Or.inl (List.mem_of_getElem? (i := 0) rfl))
  have f15 : Fld Z h13 a2_0 "com/example/tailwake/tailwake/capture/Reconnection" "clock" "Lcom/example/tailwake/tailwake/capture/Reconnection$Clock;" (.ref ck) := f11.same W13
  have N16 := Fr.snoc X13 N8 pf_G_a2_0
  have f17 := (f4.other W13 (Or.inr (slot_ne (Or.inr wo16) (Or.inr wo24) (by decide) (t := .int) (t' := (.object "com/example/tailwake/tailwake/capture/Reconnection$Clock")) (by decide) (by decide))))
  obtain ⟨fs, hr, hrun, hended, hW, hsame⟩ := X13.leave (v := none) (fun _ => rfl)
  refine ⟨_, _, pre0 _ ?_, hrun, hended, _, _, rfl, ?_, ⟨_, rfl⟩, hW, hsame.mono (by decide) (by decide)⟩
  · show Steps p.tables e below (s₁.setTop (mkF m 0 #[rv a2_0, iv tm, rv ck] [])) _
    refine XS.aloadN X0.here hx rfl (hb hby d2_0) rfl rfl ?_
    show Steps p.tables e below (s₁.setTop (mkF m 1 #[rv a2_0, iv tm, rv ck] [(.ref a2_0)])) _
    refine st1 _ ?_
    show Steps p.tables e below (T1.setTop (mkF m 4 #[rv a2_0, iv tm, rv ck] [])) _
    refine XS.aloadN X1.here hx rfl (hb hby d2_4) rfl rfl ?_
    show Steps p.tables e below (T1.setTop (mkF m 5 #[rv a2_0, iv tm, rv ck] [(.ref a2_0)])) _
    refine XS.iloadN X1.here hx rfl (hb hby d2_5) rfl ?_
    show Steps p.tables e below (T1.setTop (mkF m 6 #[rv a2_0, iv tm, rv ck] [(.int tm), (.ref a2_0)])) _
    refine st2 _ ?_
    show Steps p.tables e below (T2.setTop (mkF m 9 #[rv a2_0, iv tm, rv ck] [])) _
    refine XS.aloadN X2.here hx rfl (hb hby d2_9) rfl rfl ?_
    show Steps p.tables e below (T2.setTop (mkF m 10 #[rv a2_0, iv tm, rv ck] [(.ref a2_0)])) _
    refine XS.aloadN X2.here hx rfl (hb hby d2_10) rfl rfl ?_
    show Steps p.tables e below (T2.setTop (mkF m 11 #[rv a2_0, iv tm, rv ck] [(.ref ck), (.ref a2_0)])) _
    refine st6 _ ?_
    show Steps p.tables e below (T6.setTop (mkF m 14 #[rv a2_0, iv tm, rv ck] [(.ref ck), (.ref a2_0)])) _
    refine st10 _ ?_
    show Steps p.tables e below (T10.setTop (mkF m 17 #[rv a2_0, iv tm, rv ck] [(.ref ck), (.ref a2_0)])) _
    refine st13 _ ?_
    show Steps p.tables e below (T13.setTop (mkF m 20 #[rv a2_0, iv tm, rv ck] [])) _
    exact X13.returnOut hx Bd.returns (hb hby d2_20) hr
  · show Q_rm2 Z _ _ _ h0 n0 _ T13.heap _
    rw [e13]
    exact ⟨rfl, N16, (K14), f17⟩
theorem d1_0 : decode prog_13_method_3_code 0 = .ok (.new 8, 3) := by decide +kernel
theorem d1_3 : decode prog_13_method_3_code 3 = .ok (.dup, 1) := by decide +kernel
theorem d1_4 : decode prog_13_method_3_code 4 = .ok (.iconst (-1), 1) := by decide +kernel
theorem d1_5 : decode prog_13_method_3_code 5 = .ok (.getstatic 37, 3) := by decide +kernel
theorem pd_3 : parseMethodDescriptor "(ILcom/example/tailwake/tailwake/capture/Reconnection$Clock;)V" = some ⟨[.int, (.object "com/example/tailwake/tailwake/capture/Reconnection$Clock")], none⟩ := by decide +kernel
theorem d1_8 : decode prog_13_method_3_code 8 = .ok (.invokespecial 40, 3) := by decide +kernel
theorem d1_11 : decode prog_13_method_3_code 11 = .ok (.areturn, 1) := by decide +kernel
theorem ef_rm1 (m : MethodId)  : entryFrame m #[] 0 = mkF m 0 #[] [] := by first | (simp [entryFrame, mkF, argsToLocals, Value.category]; done) | rfl
def Q_rm1 (Z : State) (s_SYSTEM : Addr) (h0 : Heap) (n0 : Nat) (v : Option Value) (h : Heap) (L : List Loc) : Prop := ∃ (b : Addr), v = some (.ref b) ∧ Fr n0 L ∧ Keep h0 h [] ∧ (h0.size ≤ b) ∧ (Exa Z h b "com/example/tailwake/tailwake/capture/Reconnection") ∧ (Fld Z h b "com/example/tailwake/tailwake/capture/Reconnection" "timeoutMillis" "I" (.int (-1 : Int32)))
set_option maxRecDepth 65536 in
set_option maxHeartbeats 40000000 in
theorem rm1 (l : Launch) (Z : State) (a0 : Array Value) (hw : ∀ d ∈ tables_1, d.before a0 Z = true) (ws : List Jvm.Cond) (s_SYSTEM : Addr) (h0 : Heap) (n0 : Nat) (Z0 : n0 ≤ h0.size) (pf_O : Old Z n0 h0) (pf_S_com_example_tailwake_tailwake_capture_Reconnection_Clock_SYSTEM : Sta Z Z.heap "com/example/tailwake/tailwake/capture/Reconnection$Clock" "SYSTEM" "Lcom/example/tailwake/tailwake/capture/Reconnection$Clock;" (.ref s_SYSTEM)) (pf_E_s_SYSTEM : Exa Z h0 s_SYSTEM "com/example/tailwake/tailwake/capture/Reconnection$Clock$1") :
    MetFree l (⟨"com/example/tailwake/tailwake/capture/Reconnection", "untilStopped", "()Lcom/example/tailwake/tailwake/capture/Reconnection;"⟩ : MethodName) (head1 (Jvm.Cond.code (⟨"com/example/tailwake/tailwake/capture/Reconnection", "untilStopped", "()Lcom/example/tailwake/tailwake/capture/Reconnection;"⟩ : MethodName) prog_13_method_3_code 0 (some (.object "com/example/tailwake/tailwake/capture/Reconnection")) :: ws) ({ frames := 2, cells := 1, slots := 2, locals := 28 } : Room)) (fun a U => a = #[] ∧ Z.Warmed39 U.vm ∧ U.heap = h0) (fun _ _ _ _ _ => True) (fun _ U o U' => ∃ v L, o = .returned v ∧ Q_rm1 Z s_SYSTEM h0 n0 v U'.heap L ∧ FrameEnd U o U' L ({ frames := 2, cells := 1, slots := 2, locals := 28 } : Room).cells ({ frames := 2, cells := 1, slots := 2, locals := 28 } : Room).slots) := by
  refine MetFree.of_bodySF (plainFor_of_name pn_com_example_tailwake_tailwake_capture_Reconnection) hisR ?_
  intro p e s m args below meth c s₁ Bd hml0 hP hK
  obtain ⟨rfl, hZ, hh⟩ := hP
  have hx := Bd.exec
  have hby := Bd.bytes
  have hml : c.maxLocals = 0 := hml0
  have hown : s.vm.findClass "com/example/tailwake/tailwake/capture/Reconnection" = some m.cls := findClass_of_methodNamed Bd.named
  have hnm := (name_of_methodNamed Bd.named Bd.method).1
  have X0 : Stand p l e ({ frames := 2, cells := 1, slots := 2, locals := 28 } : Room) s m #[] below meth c s₁ [] 0 0 := Stand.of_body Bd
  have e0 : s₁.heap = h0 := by rw [← hh, Bd.state]; rfl
  have N0 := Fr.nil n0
  have pre0 : ∀ t, Steps p.tables e below (s₁.setTop (mkF m 0 #[] [])) t → Steps p.tables e below (s₁.setTop (entryFrame m #[] 0)) t := fun t k => castTop (ef_rm1 m ) k
  have wo2 := hw _ (List.mem_of_getElem? (i := 2) rfl)
  have wo4 := hw _ (List.mem_of_getElem? (i := 4) rfl)
  have wo5 := hw _ (List.mem_of_getElem? (i := 5) rfl)
  have wo6 := hw _ (List.mem_of_getElem? (i := 6) rfl)
  have wo9 := hw _ (List.mem_of_getElem? (i := 9) rfl)
  have wo10 := hw _ (List.mem_of_getElem? (i := 10) rfl)
  have wo11 := hw _ (List.mem_of_getElem? (i := 11) rfl)
  have wo16 := hw _ (List.mem_of_getElem? (i := 16) rfl)
  have wo24 := hw _ (List.mem_of_getElem? (i := 24) rfl)
  obtain ⟨T1, h1, X1, e1, E1, A1, D1, -, st1⟩ := newO X0 hx hZ hown wo4 wo5 wo2 e0 (g := (mkF m 0 #[] [])) rfl (hb hby d1_0) (by decide) (by decide)
  obtain ⟨b1, gg1⟩ : ∃ z, z = h0.size := ⟨_, rfl⟩
  rw [← gg1] at A1 D1 st1
  have ne2 : s_SYSTEM ≠ b1 := Nat.ne_of_lt (Nat.lt_of_lt_of_le pf_E_s_SYSTEM.lt (Nat.le_of_eq gg1.symm))
  have g3 : n0 ≤ b1 := Nat.le_trans Z0 (Nat.le_of_eq gg1.symm)
  have bz4 : h0.size ≤ b1 := Nat.le_trans (Keep.refl h0 []).1 (Nat.le_of_eq gg1.symm)
  have K5 : Keep h0 h1 [] := (Keep.refl h0 []).ext E1
  have f6 : Fld Z h1 b1 "com/example/tailwake/tailwake/capture/Reconnection" "timeoutMillis" "I" (.int (0 : Int32)) := D1 (Or.inr wo16) (ty := .int) (by decide)
  have f7 : Fld Z h1 b1 "com/example/tailwake/tailwake/capture/Reconnection" "clock" "Lcom/example/tailwake/tailwake/capture/Reconnection$Clock;" .null := D1 (Or.inr wo24) (ty := (.object "com/example/tailwake/tailwake/capture/Reconnection$Clock")) (by decide)
  have f8 := (pf_O.ext E1)
  obtain ⟨T9, X9, e9, st9⟩ := getS2 X1 hx hZ hown (host := "") (Or.inl wo6) Via.refl e1 (pf_S_com_example_tailwake_tailwake_capture_Reconnection_Clock_SYSTEM.ext f8.2) (g := (mkF m 5 #[] [(.int (-1 : Int32)), (.ref b1), (.ref b1)])) rfl (hb hby d1_5)
  have f10 := (pf_E_s_SYSTEM.ext E1)
  have f12 := (Nat.le_trans Z0 E1.1)
  obtain ⟨_, _, ⟨T11, L11, k11, n11⟩, -, X11, ⟨Lc11, hQ11, l11, y11, z11⟩, st11⟩ := X9.specialBack hx (y := MN2) rfl hown (mvT hZ wo9) (mvT hZ wo10) (mvT hZ wo11) (by decide) (backOf (W := 1) (rm2 l Z a0 hw [] b1 (-1 : Int32) s_SYSTEM h1 n0 f12 A1 g3 f10 f6 f7) hZ wo11 wo2 (by decide) (by decide)) (g := (mkF m 8 #[] [(.ref s_SYSTEM), (.int (-1 : Int32)), (.ref b1), (.ref b1)])) rfl (by rw [hml]; rfl) (Steps.refl _) (a := b1) (argsL := [(.int (-1 : Int32)), (.ref s_SYSTEM)]) (rest := [(.ref b1)]) (lenOf pd_3 rfl) rfl (by show 2 * 0 + _ ≤ _; exact Nat.le_of_eq rfl) (hb hby d1_8) (fun _ _ => ⟨rfl, e9, (by decide : 1 + 0 ≤ _), (by decide : 2 + 0 ≤ _)⟩)
  dsimp only [Pt.U, Pt.locs, Pt.cells, Pt.slots] at X11 l11 y11 z11 st11 hQ11
  subst l11 y11 z11
  obtain ⟨rfl, N11q, K11q, hq11_0⟩ := hQ11
  have N13 := Fr.app N0 N11q
  have K14 : Keep h0 T11.heap [] := (K5).trans K11q (allS (P := fun x => x ∈ [] ∨ h0.size ≤ x) (Or.inr bz4) all0)
  have f15 := (A1.keep K11q)
  obtain ⟨fs, hr, hrun, hended, hW, hsame⟩ := X11.leave (v := some (.ref b1)) (fun h => by rw [Bd.returns] at h; cases h)
  refine ⟨_, _, pre0 _ ?_, hrun, hended, _, _, rfl, ?_, ⟨_, rfl⟩, hW, hsame.mono (by decide) (by decide)⟩
  · show Steps p.tables e below (s₁.setTop (mkF m 0 #[] [])) _
    refine st1 _ ?_
    show Steps p.tables e below (T1.setTop (mkF m 3 #[] [(.ref b1)])) _
    refine XS.dup X1.here hx rfl (hb hby d1_3) rfl rfl ?_
    show Steps p.tables e below (T1.setTop (mkF m 4 #[] [(.ref b1), (.ref b1)])) _
    refine XS.iconst X1.here hx rfl (hb hby d1_4) ?_
    show Steps p.tables e below (T1.setTop (mkF m 5 #[] [(.int (-1 : Int32)), (.ref b1), (.ref b1)])) _
    refine st9 _ ?_
    show Steps p.tables e below (T9.setTop (mkF m 8 #[] [(.ref s_SYSTEM), (.int (-1 : Int32)), (.ref b1), (.ref b1)])) _
    refine st11.trans ?_
    show Steps p.tables e below (T11.setTop (mkF m 11 #[] [(.ref b1)])) _
    exact retOut X11 hx Bd.returns rfl (Or.inr (Or.inr (Or.inr (Or.inr ⟨rfl, rfl, rfl⟩)))) (hb hby d1_11) hr
  · show Q_rm1 Z _ h0 n0 _ T11.heap _
    exact ⟨b1, rfl, N13, (K14), bz4, f15, hq11_0⟩
theorem d5_0 : decode prog_13_method_5_code 0 = .ok (.aload_n 0, 1) := by decide +kernel
theorem d5_1 : decode prog_13_method_5_code 1 = .ok (.getfield 7, 3) := by decide +kernel
theorem d5_4 : decode prog_13_method_5_code 4 = .ok (.ireturn, 1) := by decide +kernel
theorem ef_rm5 (m : MethodId) (x0 : Addr) : entryFrame m #[(.ref x0)] 1 = mkF m 0 #[rv x0] [] := by first | (simp [entryFrame, mkF, argsToLocals, Value.category]; done) | rfl
def Q_rm5 (Z : State) (a5_0 : Addr) (tm : Int32) (h0 : Heap) (n0 : Nat) (v : Option Value) (h : Heap) (L : List Loc) : Prop := v = some (.int tm) ∧ Fr n0 L ∧ h = h0
set_option maxRecDepth 65536 in
set_option maxHeartbeats 40000000 in
theorem rm5 (l : Launch) (Z : State) (a0 : Array Value) (hw : ∀ d ∈ tables_1, d.before a0 Z = true) (ws : List Jvm.Cond) (a5_0 : Addr) (tm : Int32) (h0 : Heap) (n0 : Nat) (Z0 : n0 ≤ h0.size) (pf_F_a5_0_timeoutMillis : Fld Z h0 a5_0 "com/example/tailwake/tailwake/capture/Reconnection" "timeoutMillis" "I" (.int tm)) :
    MetFree l (⟨"com/example/tailwake/tailwake/capture/Reconnection", "timeoutMillis", "()I"⟩ : MethodName) (head1 (Jvm.Cond.code (⟨"com/example/tailwake/tailwake/capture/Reconnection", "timeoutMillis", "()I"⟩ : MethodName) prog_13_method_5_code 1 (some .int) :: ws) ({ frames := 0, cells := 0, slots := 0, locals := 0 } : Room)) (fun a U => a = #[(.ref a5_0)] ∧ Z.Warmed39 U.vm ∧ U.heap = h0) (fun _ _ _ _ _ => True) (fun _ U o U' => ∃ v L, o = .returned v ∧ Q_rm5 Z a5_0 tm h0 n0 v U'.heap L ∧ FrameEnd U o U' L ({ frames := 0, cells := 0, slots := 0, locals := 0 } : Room).cells ({ frames := 0, cells := 0, slots := 0, locals := 0 } : Room).slots) := by
  refine MetFree.of_bodySF (plainFor_of_name pn_com_example_tailwake_tailwake_capture_Reconnection) hisR ?_
  intro p e s m args below meth c s₁ Bd hml0 hP hK
  obtain ⟨rfl, hZ, hh⟩ := hP
  have hx := Bd.exec
  have hby := Bd.bytes
  have hml : c.maxLocals = 1 := hml0
  have hown : s.vm.findClass "com/example/tailwake/tailwake/capture/Reconnection" = some m.cls := findClass_of_methodNamed Bd.named
  have hnm := (name_of_methodNamed Bd.named Bd.method).1
  have X0 : Stand p l e ({ frames := 0, cells := 0, slots := 0, locals := 0 } : Room) s m #[(.ref a5_0)] below meth c s₁ [] 0 0 := Stand.of_body Bd
  have e0 : s₁.heap = h0 := by rw [← hh, Bd.state]; rfl
  have N0 := Fr.nil n0
  have pre0 : ∀ t, Steps p.tables e below (s₁.setTop (mkF m 0 #[rv a5_0] [])) t → Steps p.tables e below (s₁.setTop (entryFrame m #[(.ref a5_0)] 1)) t := fun t k => castTop (ef_rm5 m a5_0) k
  have wo15 := hw _ (List.mem_of_getElem? (i := 15) rfl)
  obtain ⟨T1, X1, e1, st1⟩ := getF X0 hx hZ hown (host := "") (Or.inl wo15) Via.refl e0 pf_F_a5_0_timeoutMillis (g := (mkF m 1 #[rv a5_0] [(.ref a5_0)])) rfl rfl (hb hby d5_1)
  obtain ⟨fs, hr, hrun, hended, hW, hsame⟩ := X1.leave (v := some (.int tm)) (fun h => by rw [Bd.returns] at h; cases h)
  refine ⟨_, _, pre0 _ ?_, hrun, hended, _, _, rfl, ?_, ⟨_, rfl⟩, hW, hsame.mono (by decide) (by decide)⟩
  · show Steps p.tables e below (s₁.setTop (mkF m 0 #[rv a5_0] [])) _
    refine XS.aloadN X0.here hx rfl (hb hby d5_0) rfl rfl ?_
    show Steps p.tables e below (s₁.setTop (mkF m 1 #[rv a5_0] [(.ref a5_0)])) _
    refine st1 _ ?_
    show Steps p.tables e below (T1.setTop (mkF m 4 #[rv a5_0] [(.int tm)])) _
    exact retI X1 hx Bd.returns (hb hby d5_4) hr
  · show Q_rm5 Z _ _ h0 n0 _ T1.heap _
    rw [e1]
    exact ⟨rfl, N0, rfl⟩
theorem d6_0 : decode prog_13_method_4_code 0 = .ok (.new 8, 3) := by decide +kernel
theorem d6_3 : decode prog_13_method_4_code 3 = .ok (.dup, 1) := by decide +kernel
theorem d6_4 : decode prog_13_method_4_code 4 = .ok (.aload_n 0, 1) := by decide +kernel
theorem d6_5 : decode prog_13_method_4_code 5 = .ok (.getfield 7, 3) := by decide +kernel
theorem d6_8 : decode prog_13_method_4_code 8 = .ok (.aload_n 1, 1) := by decide +kernel
theorem d6_9 : decode prog_13_method_4_code 9 = .ok (.invokespecial 40, 3) := by decide +kernel
theorem d6_12 : decode prog_13_method_4_code 12 = .ok (.areturn, 1) := by decide +kernel
theorem ef_rm6 (m : MethodId) (x0 : Addr) (x1 : Addr) : entryFrame m #[(.ref x0), (.ref x1)] 2 = mkF m 0 #[rv x0, rv x1] [] := by first | (simp [entryFrame, mkF, argsToLocals, Value.category]; done) | rfl
def Q_rm6 (Z : State) (a6_0 : Addr) (ck : Addr) (tm : Int32) (h0 : Heap) (n0 : Nat) (v : Option Value) (h : Heap) (L : List Loc) : Prop := ∃ (b : Addr), v = some (.ref b) ∧ Fr n0 L ∧ Keep h0 h [] ∧ (h0.size ≤ b) ∧ (Exa Z h b "com/example/tailwake/tailwake/capture/Reconnection") ∧ (Fld Z h b "com/example/tailwake/tailwake/capture/Reconnection" "timeoutMillis" "I" (.int tm))
set_option maxRecDepth 65536 in
set_option maxHeartbeats 40000000 in
theorem rm6 (l : Launch) (Z : State) (a0 : Array Value) (hw : ∀ d ∈ tables_1, d.before a0 Z = true) (ws : List Jvm.Cond) (a6_0 : Addr) (ck : Addr) (tm : Int32) (h0 : Heap) (n0 : Nat) (Z0 : n0 ≤ h0.size) (pf_E_ck : Exa Z h0 ck "com/example/tailwake/tailwake/capture/Reconnection$Clock$1") (pf_F_a6_0_timeoutMillis : Fld Z h0 a6_0 "com/example/tailwake/tailwake/capture/Reconnection" "timeoutMillis" "I" (.int tm)) :
    MetFree l (⟨"com/example/tailwake/tailwake/capture/Reconnection", "withClock", "(Lcom/example/tailwake/tailwake/capture/Reconnection$Clock;)Lcom/example/tailwake/tailwake/capture/Reconnection;"⟩ : MethodName) (head1 (Jvm.Cond.code (⟨"com/example/tailwake/tailwake/capture/Reconnection", "withClock", "(Lcom/example/tailwake/tailwake/capture/Reconnection$Clock;)Lcom/example/tailwake/tailwake/capture/Reconnection;"⟩ : MethodName) prog_13_method_4_code 2 (some (.object "com/example/tailwake/tailwake/capture/Reconnection")) :: ws) ({ frames := 2, cells := 1, slots := 2, locals := 28 } : Room)) (fun a U => a = #[(.ref a6_0), (.ref ck)] ∧ Z.Warmed39 U.vm ∧ U.heap = h0) (fun _ _ _ _ _ => True) (fun _ U o U' => ∃ v L, o = .returned v ∧ Q_rm6 Z a6_0 ck tm h0 n0 v U'.heap L ∧ FrameEnd U o U' L ({ frames := 2, cells := 1, slots := 2, locals := 28 } : Room).cells ({ frames := 2, cells := 1, slots := 2, locals := 28 } : Room).slots) := by
  refine MetFree.of_bodySF (plainFor_of_name pn_com_example_tailwake_tailwake_capture_Reconnection) hisR ?_
  intro p e s m args below meth c s₁ Bd hml0 hP hK
  obtain ⟨rfl, hZ, hh⟩ := hP
  have hx := Bd.exec
  have hby := Bd.bytes
  have hml : c.maxLocals = 2 := hml0
  have hown : s.vm.findClass "com/example/tailwake/tailwake/capture/Reconnection" = some m.cls := findClass_of_methodNamed Bd.named
  have hnm := (name_of_methodNamed Bd.named Bd.method).1
  have X0 : Stand p l e ({ frames := 2, cells := 1, slots := 2, locals := 28 } : Room) s m #[(.ref a6_0), (.ref ck)] below meth c s₁ [] 0 0 := Stand.of_body Bd
  have e0 : s₁.heap = h0 := by rw [← hh, Bd.state]; rfl
  have N0 := Fr.nil n0
  have pre0 : ∀ t, Steps p.tables e below (s₁.setTop (mkF m 0 #[rv a6_0, rv ck] [])) t → Steps p.tables e below (s₁.setTop (entryFrame m #[(.ref a6_0), (.ref ck)] 2)) t := fun t k => castTop (ef_rm6 m a6_0 ck) k
  have wo2 := hw _ (List.mem_of_getElem? (i := 2) rfl)
  have wo4 := hw _ (List.mem_of_getElem? (i := 4) rfl)
  have wo5 := hw _ (List.mem_of_getElem? (i := 5) rfl)
  have wo9 := hw _ (List.mem_of_getElem? (i := 9) rfl)
  have wo10 := hw _ (List.mem_of_getElem? (i := 10) rfl)
  have wo11 := hw _ (List.mem_of_getElem? (i := 11) rfl)
  have wo15 := hw _ (List.mem_of_getElem? (i := 15) rfl)
  have wo16 := hw _ (List.mem_of_getElem? (i := 16) rfl)
  have wo24 := hw _ (List.mem_of_getElem? (i := 24) rfl)
  obtain ⟨T1, h1, X1, e1, E1, A1, D1, -, st1⟩ := newO X0 hx hZ hown wo4 wo5 wo2 e0 (g := (mkF m 0 #[rv a6_0, rv ck] [])) rfl (hb hby d6_0) (by decide) (by decide)
  obtain ⟨b1, gg1⟩ : ∃ z, z = h0.size := ⟨_, rfl⟩
  rw [← gg1] at A1 D1 st1
  have ne2 : a6_0 ≠ b1 := Nat.ne_of_lt (Nat.lt_of_lt_of_le pf_F_a6_0_timeoutMillis.lt (Nat.le_of_eq gg1.symm))
  have ne3 : ck ≠ b1 := Nat.ne_of_lt (Nat.lt_of_lt_of_le pf_E_ck.lt (Nat.le_of_eq gg1.symm))
  have g4 : n0 ≤ b1 := Nat.le_trans Z0 (Nat.le_of_eq gg1.symm)
  have bz5 : h0.size ≤ b1 := Nat.le_trans (Keep.refl h0 []).1 (Nat.le_of_eq gg1.symm)
  have K6 : Keep h0 h1 [] := (Keep.refl h0 []).ext E1
  have f7 : Fld Z h1 b1 "com/example/tailwake/tailwake/capture/Reconnection" "timeoutMillis" "I" (.int (0 : Int32)) := D1 (Or.inr wo16) (ty := .int) (by decide)
  have f8 : Fld Z h1 b1 "com/example/tailwake/tailwake/capture/Reconnection" "clock" "Lcom/example/tailwake/tailwake/capture/Reconnection$Clock;" .null := D1 (Or.inr wo24) (ty := (.object "com/example/tailwake/tailwake/capture/Reconnection$Clock")) (by decide)
  have f9 := (pf_F_a6_0_timeoutMillis.ext E1)
  obtain ⟨T10, X10, e10, st10⟩ := getF X1 hx hZ hown (host := "") (Or.inl wo15) Via.refl e1 f9 (g := (mkF m 5 #[rv a6_0, rv ck] [(.ref a6_0), (.ref b1), (.ref b1)])) rfl rfl (hb hby d6_5)
  have f11 := (pf_E_ck.ext E1)
  have f13 := (Nat.le_trans Z0 E1.1)
  obtain ⟨_, _, ⟨T12, L12, k12, n12⟩, -, X12, ⟨Lc12, hQ12, l12, y12, z12⟩, st12⟩ := X10.specialBack hx (y := MN2) rfl hown (mvT hZ wo9) (mvT hZ wo10) (mvT hZ wo11) (by decide) (backOf (W := 1) (rm2 l Z a0 hw [] b1 tm ck h1 n0 f13 A1 g4 f11 f7 f8) hZ wo11 wo2 (by decide) (by decide)) (g := (mkF m 9 #[rv a6_0, rv ck] [(.ref ck), (.int tm), (.ref b1), (.ref b1)])) rfl (by rw [hml]; rfl) (Steps.refl _) (a := b1) (argsL := [(.int tm), (.ref ck)]) (rest := [(.ref b1)]) (lenOf pd_3 rfl) rfl (by show 2 * 0 + _ ≤ _; exact Nat.le_of_eq rfl) (hb hby d6_9) (fun _ _ => ⟨rfl, e10, (by decide : 1 + 0 ≤ _), (by decide : 2 + 0 ≤ _)⟩)
  dsimp only [Pt.U, Pt.locs, Pt.cells, Pt.slots] at X12 l12 y12 z12 st12 hQ12
  subst l12 y12 z12
  obtain ⟨rfl, N12q, K12q, hq12_0⟩ := hQ12
  have N14 := Fr.app N0 N12q
  have K15 : Keep h0 T12.heap [] := (K6).trans K12q (allS (P := fun x => x ∈ [] ∨ h0.size ≤ x) (Or.inr bz5) all0)
  have f16 := (A1.keep K12q)
  obtain ⟨fs, hr, hrun, hended, hW, hsame⟩ := X12.leave (v := some (.ref b1)) (fun h => by rw [Bd.returns] at h; cases h)
  refine ⟨_, _, pre0 _ ?_, hrun, hended, _, _, rfl, ?_, ⟨_, rfl⟩, hW, hsame.mono (by decide) (by decide)⟩
  · show Steps p.tables e below (s₁.setTop (mkF m 0 #[rv a6_0, rv ck] [])) _
    refine st1 _ ?_
    show Steps p.tables e below (T1.setTop (mkF m 3 #[rv a6_0, rv ck] [(.ref b1)])) _
    refine XS.dup X1.here hx rfl (hb hby d6_3) rfl rfl ?_
    show Steps p.tables e below (T1.setTop (mkF m 4 #[rv a6_0, rv ck] [(.ref b1), (.ref b1)])) _
    refine XS.aloadN X1.here hx rfl (hb hby d6_4) rfl rfl ?_
    show Steps p.tables e below (T1.setTop (mkF m 5 #[rv a6_0, rv ck] [(.ref a6_0), (.ref b1), (.ref b1)])) _
    refine st10 _ ?_
    show Steps p.tables e below (T10.setTop (mkF m 8 #[rv a6_0, rv ck] [(.int tm), (.ref b1), (.ref b1)])) _
    refine XS.aloadN X10.here hx rfl (hb hby d6_8) rfl rfl ?_
    show Steps p.tables e below (T10.setTop (mkF m 9 #[rv a6_0, rv ck] [(.ref ck), (.int tm), (.ref b1), (.ref b1)])) _
    refine st12.trans ?_
    show Steps p.tables e below (T12.setTop (mkF m 12 #[rv a6_0, rv ck] [(.ref b1)])) _
    exact retOut X12 hx Bd.returns rfl (Or.inr (Or.inr (Or.inr (Or.inr ⟨rfl, rfl, rfl⟩)))) (hb hby d6_12) hr
  · show Q_rm6 Z _ _ _ h0 n0 _ T12.heap _
    exact ⟨b1, rfl, N14, (K15), bz5, f16, hq12_0⟩
theorem pd_1 : parseMethodDescriptor "()Lcom/example/tailwake/tailwake/capture/Reconnection;" = some ⟨[], some (.object "com/example/tailwake/tailwake/capture/Reconnection")⟩ := by decide +kernel
theorem pd_0 : parseMethodDescriptor "()I" = some ⟨[], some .int⟩ := by decide +kernel
theorem pd_4 : parseMethodDescriptor "(Lcom/example/tailwake/tailwake/capture/Reconnection$Clock;)Lcom/example/tailwake/tailwake/capture/Reconnection;" = some ⟨[(.object "com/example/tailwake/tailwake/capture/Reconnection$Clock")], some (.object "com/example/tailwake/tailwake/capture/Reconnection")⟩ := by decide +kernel
theorem pn_com_example_tailwake_tailwake_capture_ReconnectionUntilStoppedPinLaw : plainName "com/example/tailwake/tailwake/capture/ReconnectionUntilStoppedPinLaw" = true := by first | (simp [plainName, overriddenIn]; done) | decide +kernel
theorem ef_rm0 (m : MethodId) (x0 : Int32) : entryFrame m #[(.int x0)] maxLocals = mkF m 0 #[iv x0, .unset] [] := by first | (simp [entryFrame, mkF, argsToLocals, Value.category, maxLocals]; done) | rfl
def Q_rm0 (Z : State) (p0_0 : Int32) (s_SYSTEM : Addr) (h0 : Heap) (n0 : Nat) (v : Option Value) (h : Heap) (L : List Loc) : Prop := v = some (.int (1 : Int32)) ∧ Fr n0 L ∧ Keep h0 h []
set_option maxRecDepth 65536 in
set_option maxHeartbeats 40000000 in
theorem rm0 (l : Launch) (Z : State) (a0 : Array Value) (hw : ∀ d ∈ tables_1, d.before a0 Z = true) (ws : List Jvm.Cond) (p0_0 : Int32) (s_SYSTEM : Addr) (h0 : Heap) (n0 : Nat) (Z0 : n0 ≤ h0.size) (pf_O : Old Z n0 h0) (pf_S_com_example_tailwake_tailwake_capture_Reconnection_Clock_SYSTEM : Sta Z Z.heap "com/example/tailwake/tailwake/capture/Reconnection$Clock" "SYSTEM" "Lcom/example/tailwake/tailwake/capture/Reconnection$Clock;" (.ref s_SYSTEM)) (pf_E_s_SYSTEM : Exa Z h0 s_SYSTEM "com/example/tailwake/tailwake/capture/Reconnection$Clock$1") :
    MetFree l x (head1 (Jvm.Cond.code x code maxLocals ret :: ws) room_1) (fun a U => a = #[(.int p0_0)] ∧ Z.Warmed39 U.vm ∧ U.heap = h0) (fun _ _ _ _ _ => True) (fun _ U o U' => ∃ v L, o = .returned v ∧ Q_rm0 Z p0_0 s_SYSTEM h0 n0 v U'.heap L ∧ FrameEnd U o U' L room_1.cells room_1.slots) := by
  refine MetFree.of_bodySF (plainFor_of_name pn_com_example_tailwake_tailwake_capture_ReconnectionUntilStoppedPinLaw) hisR ?_
  intro p e s m args below meth c s₁ Bd hml0 hP hK
  obtain ⟨rfl, hZ, hh⟩ := hP
  have hx := Bd.exec
  have hby := Bd.bytes
  have hml : c.maxLocals = 2 := hml0
  have hown : s.vm.findClass "com/example/tailwake/tailwake/capture/ReconnectionUntilStoppedPinLaw" = some m.cls := findClass_of_methodNamed Bd.named
  have hnm := (name_of_methodNamed Bd.named Bd.method).1
  have X0 : Stand p l e room_1 s m #[(.int p0_0)] below meth c s₁ [] 0 0 := Stand.of_body Bd
  have e0 : s₁.heap = h0 := by rw [← hh, Bd.state]; rfl
  have N0 := Fr.nil n0
  have pre0 : ∀ t, Steps p.tables e below (s₁.setTop (mkF m 0 #[iv p0_0, .unset] [])) t → Steps p.tables e below (s₁.setTop (entryFrame m #[(.int p0_0)] maxLocals)) t := fun t k => castTop (ef_rm0 m p0_0) k
  have wo0 := hw _ (List.mem_of_getElem? (i := 0) rfl)
  have wo1 := hw _ (List.mem_of_getElem? (i := 1) rfl)
  have wo2 := hw _ (List.mem_of_getElem? (i := 2) rfl)
  have wo3 := hw _ (List.mem_of_getElem? (i := 3) rfl)
  have wo25 := hw _ (List.mem_of_getElem? (i := 25) rfl)
  have wo26 := hw _ (List.mem_of_getElem? (i := 26) rfl)
  have wo27 := hw _ (List.mem_of_getElem? (i := 27) rfl)
  have wo28 := hw _ (List.mem_of_getElem? (i := 28) rfl)
  have wo29 := hw _ (List.mem_of_getElem? (i := 29) rfl)
  have wo30 := hw _ (List.mem_of_getElem? (i := 30) rfl)
  have wo31 := hw _ (List.mem_of_getElem? (i := 31) rfl)
  have wo32 := hw _ (List.mem_of_getElem? (i := 32) rfl)
  have wo33 := hw _ (List.mem_of_getElem? (i := 33) rfl)
  have wo34 := hw _ (List.mem_of_getElem? (i := 34) rfl)
  have wo35 := hw _ (List.mem_of_getElem? (i := 35) rfl)
  obtain ⟨_, _, ⟨T1, L1, k1, n1⟩, -, X1, ⟨Lc1, hQ1, l1, y1, z1⟩, st1⟩ := Jvm.LawKit.callS X0 hx (y := MN1) hown (mvT hZ wo0) (mvT hZ wo1) (mvT hZ wo2) (mvT hZ wo3) (by decide) (backOf (W := 0) (rm1 l Z a0 hw [] s_SYSTEM h0 n0 Z0 pf_O pf_S_com_example_tailwake_tailwake_capture_Reconnection_Clock_SYSTEM pf_E_s_SYSTEM) hZ wo3 wo2 (by decide) (by decide)) (g := (mkF m 0 #[iv p0_0, .unset] [])) rfl (by rw [hml]; rfl) (argsL := []) (rest := []) (lenOf pd_1 rfl) rfl (by show 2 * 0 + _ ≤ _; exact Nat.le_of_eq rfl) (hb hby at_0) (fun _ _ => ⟨rfl, e0, (by decide : 0 + 1 ≤ _), (by decide : 0 + 2 ≤ _)⟩)
  dsimp only [Pt.U, Pt.locs, Pt.cells, Pt.slots] at X1 l1 y1 z1 st1 hQ1
  subst l1 y1 z1
  obtain ⟨b_1, rfl, N1q, K1q, hq1_0, hq1_1, hq1_2⟩ := hQ1
  have N2 := Fr.app N0 N1q
  have ne3 : s_SYSTEM ≠ b_1 := Nat.ne_of_lt (Nat.lt_of_lt_of_le pf_E_s_SYSTEM.lt hq1_0)
  have g4 : n0 ≤ b_1 := Nat.le_trans Z0 hq1_0
  have bz5 : h0.size ≤ b_1 := Nat.le_trans (Keep.refl h0 []).1 hq1_0
  have K6 : Keep h0 T1.heap [] := (Keep.refl h0 []).trans K1q all0
  have pre8 : ∀ t, Steps p.tables e below (T1.setTop (mkF m 13 #[iv p0_0, rv b_1] [(.int (p0_0 &&& (1 : Int32)))])) t → Steps p.tables e below (s₁.setTop (entryFrame m #[(.int p0_0)] maxLocals)) t := by
    intro t k
    refine pre0 _ ?_
    show Steps p.tables e below (s₁.setTop (mkF m 0 #[iv p0_0, .unset] [])) _
    refine st1 _ ?_
    show Steps p.tables e below (T1.setTop (mkF m 3 #[iv p0_0, .unset] [(.ref b_1)])) _
    refine XS.astoreN X1.here hx rfl (hb hby at_3) rfl rfl (l' := #[iv p0_0, rv b_1]) rfl ?_
    show Steps p.tables e below (T1.setTop (mkF m 4 #[iv p0_0, rv b_1] [])) _
    refine XS.aloadN X1.here hx rfl (hb hby at_4) rfl rfl ?_
    show Steps p.tables e below (T1.setTop (mkF m 5 #[iv p0_0, rv b_1] [(.ref b_1)])) _
    refine XS.ifnonnullYes X1.here hx rfl (pc0 := 5) (pc' := 10) rfl (hb hby at_5) rfl (by decide) (by decide) ?_
    show Steps p.tables e below (T1.setTop (mkF m 10 #[iv p0_0, rv b_1] [])) _
    refine XS.iloadN X1.here hx rfl (hb hby at_10) rfl ?_
    show Steps p.tables e below (T1.setTop (mkF m 11 #[iv p0_0, rv b_1] [(.int p0_0)])) _
    refine XS.iconst X1.here hx rfl (hb hby at_11) ?_
    show Steps p.tables e below (T1.setTop (mkF m 12 #[iv p0_0, rv b_1] [(.int (1 : Int32)), (.int p0_0)])) _
    refine XS.iand X1.here hx rfl (hb hby at_12) rfl ?_
    exact k
  by_cases hc13_7 : (p0_0 &&& (1 : Int32)) = (0 : Int32)
  · skip
    have f10 := (Nat.le_trans Z0 K1q.1)
    obtain ⟨cq9, kq9, q9a, q9b, q9c⟩ := isOf hZ rfl hq1_1
    obtain ⟨_, _, ⟨T9, L9, k9, n9⟩, -, X9, ⟨Lc9, hQ9, l9, y9, z9⟩, st9⟩ := X1.virtualBack hx (y := MN5) (z := MN5) hown (mvT hZ wo25) (mvT hZ wo26) (notFace_of_selects (args := #[]) (mvT hZ wo28)) (mvT hZ wo28) (mvT hZ wo27) (by decide) (backOf (W := 0) (rm5 l Z a0 hw [] b_1 (-1 : Int32) (T1.heap) n0 f10 hq1_2) hZ wo29 wo2 (by decide) (by decide)) q9a q9c (g := (mkF m 25 #[iv p0_0, rv b_1] [(.ref b_1)])) rfl (by rw [hml]; rfl) (Steps.refl _) (argsL := []) (rest := []) (lenOf pd_0 rfl) rfl (by show 2 * 0 + _ ≤ _; exact Nat.le_of_eq rfl) (hb hby at_25) (fun _ _ => ⟨rfl, rfl, (by decide : 1 + 0 ≤ _), (by decide : 2 + 0 ≤ _)⟩)
    dsimp only [Pt.U, Pt.locs, Pt.cells, Pt.slots] at X9 l9 y9 z9 st9 hQ9
    subst l9 y9 z9
    obtain ⟨rfl, N9q, K9q⟩ := hQ9
    have N11 := Fr.app N2 N9q
    obtain ⟨fs, hr, hrun, hended, hW, hsame⟩ := X9.leave (v := some (.int (1 : Int32))) (fun h => by rw [Bd.returns] at h; cases h)
    refine ⟨_, _, pre8 _ ?_, hrun, hended, _, _, rfl, ?_, ⟨_, rfl⟩, hW, hsame.mono (by decide) (by decide)⟩
    · show Steps p.tables e below (T1.setTop (mkF m 13 #[iv p0_0, rv b_1] [(.int (p0_0 &&& (1 : Int32)))])) _
      refine XS.ifYes X1.here hx rfl (pc0 := 13) (pc' := 24) rfl (hb hby at_13) rfl ((if0 _ _).trans (teq hc13_7).1) (by decide) (by decide) ?_
      show Steps p.tables e below (T1.setTop (mkF m 24 #[iv p0_0, rv b_1] [])) _
      refine XS.aloadN X1.here hx rfl (hb hby at_24) rfl rfl ?_
      show Steps p.tables e below (T1.setTop (mkF m 25 #[iv p0_0, rv b_1] [(.ref b_1)])) _
      refine st9.trans ?_
      show Steps p.tables e below (T9.setTop (mkF m 28 #[iv p0_0, rv b_1] [(.int (-1 : Int32))])) _
      refine XS.iconst X9.here hx rfl (hb hby at_28) ?_
      show Steps p.tables e below (T9.setTop (mkF m 29 #[iv p0_0, rv b_1] [(.int (-1 : Int32)), (.int (-1 : Int32))])) _
      refine XS.icmpNo X9.here hx rfl (hb hby at_29) rfl (teq (by decide : (-1 : Int32) = (-1 : Int32))).2 ?_
      show Steps p.tables e below (T9.setTop (mkF m 32 #[iv p0_0, rv b_1] [])) _
      refine XS.iconst X9.here hx rfl (hb hby at_32) ?_
      show Steps p.tables e below (T9.setTop (mkF m 33 #[iv p0_0, rv b_1] [(.int (1 : Int32))])) _
      refine XS.goto X9.here hx rfl (pc0 := 33) (pc' := 37) rfl (hb hby at_33) (by decide) (by decide) ?_
      show Steps p.tables e below (T9.setTop (mkF m 37 #[iv p0_0, rv b_1] [(.int (1 : Int32))])) _
      exact retN X9 hx (t := .boolean) Bd.returns (by simp) (hb hby at_37) hr
    · show Q_rm0 Z _ _ h0 n0 _ T9.heap _
      rw [K9q]
      exact ⟨rfl, N11, (K6)⟩
  · skip
    have f12 := (pf_O.keep K1q all0)
    obtain ⟨T13, X13, e13, st13⟩ := getS2 X1 hx hZ hown (host := "") (Or.inl wo30) Via.refl rfl (pf_S_com_example_tailwake_tailwake_capture_Reconnection_Clock_SYSTEM.ext f12.2) (g := (mkF m 17 #[iv p0_0, rv b_1] [(.ref b_1)])) rfl (hb hby at_17)
    have f14 := (pf_E_s_SYSTEM.keep K1q)
    have f16 := (Nat.le_trans Z0 K1q.1)
    obtain ⟨cq15, kq15, q15a, q15b, q15c⟩ := isOf hZ e13 hq1_1
    obtain ⟨_, _, ⟨T15, L15, k15, n15⟩, -, X15, ⟨Lc15, hQ15, l15, y15, z15⟩, st15⟩ := X13.virtualBack hx (y := MN6) (z := MN6) hown (mvT hZ wo31) (mvT hZ wo32) (notFace_of_selects (args := #[]) (mvT hZ wo34)) (mvT hZ wo34) (mvT hZ wo33) (by decide) (backOf (W := 0) (rm6 l Z a0 hw [] b_1 s_SYSTEM (-1 : Int32) (T1.heap) n0 f16 f14 hq1_2) hZ wo35 wo2 (by decide) (by decide)) q15a q15c (g := (mkF m 20 #[iv p0_0, rv b_1] [(.ref s_SYSTEM), (.ref b_1)])) rfl (by rw [hml]; rfl) (Steps.refl _) (argsL := [(.ref s_SYSTEM)]) (rest := []) (lenOf pd_4 rfl) rfl (by show 2 * 0 + _ ≤ _; exact Nat.le_of_eq rfl) (hb hby at_20) (fun _ _ => ⟨rfl, e13, (by decide : 1 + 1 ≤ _), (by decide : 2 + 2 ≤ _)⟩)
    dsimp only [Pt.U, Pt.locs, Pt.cells, Pt.slots] at X15 l15 y15 z15 st15 hQ15
    subst l15 y15 z15
    obtain ⟨b_15, rfl, N15q, K15q, hq15_0, hq15_1, hq15_2⟩ := hQ15
    have N17 := Fr.app N2 N15q
    have ne18 : s_SYSTEM ≠ b_15 := Nat.ne_of_lt (Nat.lt_of_lt_of_le f14.lt hq15_0)
    have ne19 : b_1 ≠ b_15 := Nat.ne_of_lt (Nat.lt_of_lt_of_le hq1_1.lt hq15_0)
    have g20 : n0 ≤ b_15 := Nat.le_trans f16 hq15_0
    have bz21 : h0.size ≤ b_15 := Nat.le_trans (K6).1 hq15_0
    have K22 : Keep h0 T15.heap [] := (K6).trans K15q all0
    have f24 := (Nat.le_trans f16 K15q.1)
    obtain ⟨cq23, kq23, q23a, q23b, q23c⟩ := isOf hZ rfl hq15_1
    obtain ⟨_, _, ⟨T23, L23, k23, n23⟩, -, X23, ⟨Lc23, hQ23, l23, y23, z23⟩, st23⟩ := X15.virtualBack hx (y := MN5) (z := MN5) hown (mvT hZ wo25) (mvT hZ wo26) (notFace_of_selects (args := #[]) (mvT hZ wo28)) (mvT hZ wo28) (mvT hZ wo27) (by decide) (backOf (W := 0) (rm5 l Z a0 hw [] b_15 (-1 : Int32) (T15.heap) n0 f24 hq15_2) hZ wo29 wo2 (by decide) (by decide)) q23a q23c (g := (mkF m 25 #[iv p0_0, rv b_15] [(.ref b_15)])) rfl (by rw [hml]; rfl) (Steps.refl _) (argsL := []) (rest := []) (lenOf pd_0 rfl) rfl (by show 2 * 0 + _ ≤ _; exact Nat.le_of_eq rfl) (hb hby at_25) (fun _ _ => ⟨rfl, rfl, (by decide : 2 + 0 ≤ _), (by decide : 4 + 0 ≤ _)⟩)
    dsimp only [Pt.U, Pt.locs, Pt.cells, Pt.slots] at X23 l23 y23 z23 st23 hQ23
    subst l23 y23 z23
    obtain ⟨rfl, N23q, K23q⟩ := hQ23
    have N25 := Fr.app N17 N23q
    obtain ⟨fs, hr, hrun, hended, hW, hsame⟩ := X23.leave (v := some (.int (1 : Int32))) (fun h => by rw [Bd.returns] at h; cases h)
    refine ⟨_, _, pre8 _ ?_, hrun, hended, _, _, rfl, ?_, ⟨_, rfl⟩, hW, hsame.mono (by decide) (by decide)⟩
    · show Steps p.tables e below (T1.setTop (mkF m 13 #[iv p0_0, rv b_1] [(.int (p0_0 &&& (1 : Int32)))])) _
      refine XS.ifNo X1.here hx rfl (hb hby at_13) rfl ((if0 _ _).trans (feq hc13_7).1) ?_
      show Steps p.tables e below (T1.setTop (mkF m 16 #[iv p0_0, rv b_1] [])) _
      refine XS.aloadN X1.here hx rfl (hb hby at_16) rfl rfl ?_
      show Steps p.tables e below (T1.setTop (mkF m 17 #[iv p0_0, rv b_1] [(.ref b_1)])) _
      refine st13 _ ?_
      show Steps p.tables e below (T13.setTop (mkF m 20 #[iv p0_0, rv b_1] [(.ref s_SYSTEM), (.ref b_1)])) _
      refine st15.trans ?_
      show Steps p.tables e below (T15.setTop (mkF m 23 #[iv p0_0, rv b_1] [(.ref b_15)])) _
      refine XS.astoreN X15.here hx rfl (hb hby at_23) rfl rfl (l' := #[iv p0_0, rv b_15]) rfl ?_
      show Steps p.tables e below (T15.setTop (mkF m 24 #[iv p0_0, rv b_15] [])) _
      refine XS.aloadN X15.here hx rfl (hb hby at_24) rfl rfl ?_
      show Steps p.tables e below (T15.setTop (mkF m 25 #[iv p0_0, rv b_15] [(.ref b_15)])) _
      refine st23.trans ?_
      show Steps p.tables e below (T23.setTop (mkF m 28 #[iv p0_0, rv b_15] [(.int (-1 : Int32))])) _
      refine XS.iconst X23.here hx rfl (hb hby at_28) ?_
      show Steps p.tables e below (T23.setTop (mkF m 29 #[iv p0_0, rv b_15] [(.int (-1 : Int32)), (.int (-1 : Int32))])) _
      refine XS.icmpNo X23.here hx rfl (hb hby at_29) rfl (teq (by decide : (-1 : Int32) = (-1 : Int32))).2 ?_
      show Steps p.tables e below (T23.setTop (mkF m 32 #[iv p0_0, rv b_15] [])) _
      refine XS.iconst X23.here hx rfl (hb hby at_32) ?_
      show Steps p.tables e below (T23.setTop (mkF m 33 #[iv p0_0, rv b_15] [(.int (1 : Int32))])) _
      refine XS.goto X23.here hx rfl (pc0 := 33) (pc' := 37) rfl (hb hby at_33) (by decide) (by decide) ?_
      show Steps p.tables e below (T23.setTop (mkF m 37 #[iv p0_0, rv b_15] [(.int (1 : Int32))])) _
      exact retN X23 hx (t := .boolean) Bd.returns (by simp) (hb hby at_37) hr
    · show Q_rm0 Z _ _ h0 n0 _ T23.heap _
      rw [K23q]
      exact ⟨rfl, N25, (K22)⟩
set_option maxRecDepth 65536 in
set_option maxHeartbeats 40000000 in
theorem comes_1 {Post : Tables → Env → Array Value → State → Outcome → State → Prop} (hpost : ∀ tb e args s v u, (limb_1_1.after args s (.returned v) u = true ∧ limb_1_2.after args s (.returned v) u = true ∧ True) → FrameEnd s (.returned v) u (Jvm.fieldLocs frame_1_writes args s ++ Jvm.arrayLocs frame_1_arrays args s ++ Jvm.staticLocs frame_1_statics s) 16 128 → Post tb e args s (.returned v) u) :
    ArmFor flags0 classFile x code maxLocals ret World_1 tables_1 room_1 Calls_1 rest_1 Pre_1 Post := by
  intro l hfl _ _ p e ha hc hk s m args below hf hA hF happ hP
  obtain ⟨hcalls, hrest, hpre⟩ := hP
  obtain ⟨-, -, -, hnamed, -, -, -, hat⟩ := (Spec.applies_iff hf).mp happ
  obtain ⟨hg, hn⟩ := and_e (Cond.before_iff.mp (show (Jvm.Cond.and given_1 narrow_1).before args s = true from hpre))
  obtain ⟨g1, g2⟩ := and_e hg
  obtain ⟨w0, rfl⟩ : ∃ w0 : Value, args = #[w0] := by
    have hs : args.size = 1 := by simpa [Cond.value, given_1] using g1
    obtain ⟨L⟩ := args
    match L, hs with
    | [w0], _ => exact ⟨w0, rfl⟩
  have hw := fun d (hd : d ∈ tables_1) => atoms_spec (ws := Jvm.Cond.code x code maxLocals ret :: tables_1) hat d (List.mem_cons_of_mem _ hd)
  have hfit : Fit s := fun {y c} hc i hi => by
    obtain ⟨ha, rfl⟩ := Array.getElem?_eq_some_iff.mp hc
    have q := List.all_eq_true.mp ((Array.all_eq_true_iff_forall_mem.mp hF) _ (Array.getElem_mem ha)) i (List.mem_range.mpr hi)
    simpa [Array.getElem?_eq_getElem hi] using q
  obtain ⟨i0, ei0⟩ := is_v g2
  obtain rfl : w0 = (.int i0) := Option.some.inj ei0
  obtain ⟨s_SYSTEM, es_SYSTEM⟩ := exa_v hn
  have Ss_SYSTEM : Sta s s.heap "com/example/tailwake/tailwake/capture/Reconnection$Clock" "SYSTEM" "Lcom/example/tailwake/tailwake/capture/Reconnection$Clock;" (.ref s_SYSTEM) := Sta.start es_SYSTEM (Or.inr ⟨(hw _ (List.mem_of_getElem? (i := 7) rfl)), (hw _ (List.mem_of_getElem? (i := 8) rfl))⟩)
  have Es_SYSTEM := Exa.start es_SYSTEM hn
  obtain ⟨n, o, h1, h2, h3, _, L, rfl, ⟨rfl, N, -⟩, hq⟩ := rm0 l s _ hw tables_1 i0 s_SYSTEM s.heap s.heap.size (Nat.le_refl _) (Old.start s) Ss_SYSTEM Es_SYSTEM p e ha hc hk s m _ below hf ((Spec.applies_iff_loose hf).mp happ).1 ⟨rfl, State.Warmed39.refl s, rfl⟩ trivial
  refine ⟨n, _, h1, h2, h3, hpost _ _ _ _ _ _ ⟨Cond.after_iff.mpr rfl, Cond.after_iff.mpr (eq_i res_at (Term.int_eval (1)) rfl), trivial⟩ ⟨hq.1, hq.2.1, (hq.2.2.sift fun y hy => Or.inr (N y hy)).mono (by decide) (by decide)⟩⟩
theorem main_1_1 : Claimed_1_1 := comes_1 fun _ _ _ _ _ _ h hF => ⟨h.1, hF⟩
theorem main_1_2 : Claimed_1_2 := comes_1 fun _ _ _ _ _ _ h hF => ⟨h.2.1, hF⟩
end Jvm.Pilot.@@N@@
namespace Jvm.Pilot.@@N@@
open Jvm Jvm.ClassFile Sem Op Lib Jvm.Free Jvm.Stand Jvm.Pilot.@@N@@.Jvm.D
/-! MADE BY PROGRAM (witnessworld.py) out of the Statement's table words and the real class files: 12 classes; the members and pool entries that the words name. The judged class is class 1, her method 1. -/
namespace start1
open Jvm.ClassFile
def u (s : String) : CpInfo := .utf8 (stringToUtf16 s)
/-- a pool by its gaps: so many unusable entries, then the entry; so many at the end -/
def gap : Nat → List CpInfo → List CpInfo
  | 0, r => r
  | n + 1, r => .unusable :: gap n r
def poolList (es : List (Nat × CpInfo)) (last : Nat) : List CpInfo := es.foldr (fun e r => gap e.1 (e.2 :: r)) (gap last [])
def pool (es : List (Nat × CpInfo)) (last : Nat) : Array CpInfo := ⟨poolList es last⟩
def fileOf (pool : Array CpInfo) (this : Nat) (attrs : Array Attribute := #[]) (ms : Array MethodInfo := #[]) (fl : Nat := 33) (sup : Nat := 0) (ifs : Array Nat := #[]) (fds : Array FieldInfo := #[]) : ClassFile where
  minorVersion := 0
  majorVersion := 65
  constantPool := pool
  accessFlags := fl
  thisClass := this
  superClass := sup
  interfaces := ifs
  fields := fds
  methods := ms
  attributes := attrs
def plain (name : String) (sup : Option ClassId) : Class where
  name := name
  kind := .ordinary
  loader := none
  accessFlags := 33
  super := sup
  interfaces := #[]
  cf := none
  fields := #[]
  methods := #[]
  instanceTypes := #[]
  staticTypes := #[]
  resolved := #[]
  callSites := []
  init := .initialized
  statics := none
  mirror := none

def pool0 : Array CpInfo := pool [(5, u "<init>"), (0, u "()V"), (1, .class_ 10), (1, u "java/lang/Object")] 113

def k0c0 : Code := { maxStack := 0, maxLocals := 1, code := object_method_1_code, exceptionTable := #[], attributes := #[] }
def k0m0 : Method := { name := "<init>", desc := "()V", sig := { parameters := [], returnType := none }, accessFlags := 1, code := some k0c0 }
/-- java/lang/Object -/
def k0 : Class := { plain "java/lang/Object" none with
  accessFlags := 33
  interfaces := #[]
  cf := some (fileOf pool0 8 #[] #[{ accessFlags := 1, nameIndex := 5, descriptorIndex := 6, attributes := #[] }] 33 0 #[] #[])
  fields := #[]
  methods := #[k0m0]
  instanceTypes := #[]
  staticTypes := #[]
  resolved := Array.replicate 124 none
  statics := none }

def pool1 : Array CpInfo := pool [(2, .class_ 4), (1, u "java/lang/Object"), (0, u "<init>"), (0, u "()V"), (0, .methodref 8 9), (0, .class_ 10), (0, .nameAndType 11 12), (0, u "com/example/tailwake/tailwake/capture/Reconnection"), (0, u "untilStopped"), (0, u "()Lcom/example/tailwake/tailwake/capture/Reconnection;"), (0, .fieldref 14 15), (0, .class_ 16), (0, .nameAndType 17 18), (0, u "com/example/tailwake/tailwake/capture/Reconnection$Clock"), (0, u "SYSTEM"), (0, u "Lcom/example/tailwake/tailwake/capture/Reconnection$Clock;"), (0, .methodref 8 20), (0, .nameAndType 21 22), (0, u "withClock"), (0, u "(Lcom/example/tailwake/tailwake/capture/Reconnection$Clock;)Lcom/example/tailwake/tailwake/capture/Reconnection;"), (0, .methodref 8 24), (0, .nameAndType 25 26), (0, u "timeoutMillis"), (0, u "()I"), (0, .class_ 28), (0, u "com/example/tailwake/tailwake/capture/ReconnectionUntilStoppedPinLaw"), (2, u "law"), (0, u "(I)Z")] 5

def k1m0 : Method := { name := "<init>", desc := "()V", sig := { parameters := [], returnType := none }, accessFlags := 1, code := none }
def k1c1 : Code := { maxStack := 2, maxLocals := 2, code := code, exceptionTable := #[], attributes := #[] }
def k1m1 : Method := { name := "law", desc := "(I)Z", sig := { parameters := [.int], returnType := some .boolean }, accessFlags := 9, code := some k1c1 }
/-- com/example/tailwake/tailwake/capture/ReconnectionUntilStoppedPinLaw -/
def k1 : Class := { plain "com/example/tailwake/tailwake/capture/ReconnectionUntilStoppedPinLaw" (some 0) with
  accessFlags := 49
  interfaces := #[]
  cf := some (fileOf pool1 27 #[] #[{ accessFlags := 1, nameIndex := 5, descriptorIndex := 6, attributes := #[] }, { accessFlags := 9, nameIndex := 31, descriptorIndex := 32, attributes := #[] }] 49 2 #[] #[])
  fields := #[]
  methods := #[k1m0, k1m1]
  instanceTypes := #[]
  staticTypes := #[]
  resolved := Array.replicate 38 none
  statics := none }

def pool2 : Array CpInfo := pool [(1, .methodref 2 3), (0, .class_ 4), (0, .nameAndType 5 6), (0, u "java/lang/Object"), (0, u "<init>"), (0, u "()V"), (0, .fieldref 8 9), (0, .class_ 10), (0, .nameAndType 11 12), (0, u "com/example/tailwake/tailwake/capture/Reconnection"), (0, u "timeoutMillis"), (0, u "I"), (0, .methodref 14 15), (0, .class_ 16), (0, .nameAndType 17 18), (0, u "java/util/Objects"), (0, u "requireNonNull"), (0, u "(Ljava/lang/Object;)Ljava/lang/Object;"), (0, .class_ 20), (0, u "com/example/tailwake/tailwake/capture/Reconnection$Clock"), (0, .fieldref 8 22), (0, .nameAndType 23 24), (0, u "clock"), (0, u "Lcom/example/tailwake/tailwake/capture/Reconnection$Clock;"), (12, .fieldref 19 38), (0, .nameAndType 39 24), (0, u "SYSTEM"), (0, .methodref 8 41), (0, .nameAndType 5 42), (0, u "(ILcom/example/tailwake/tailwake/capture/Reconnection$Clock;)V"), (0, .class_ 44), (0, u "com/example/tailwake/tailwake/capture/Reconnection$Outage"), (15, u "INTERVAL_NANOS"), (0, u "J"), (7, u "STOP_CHECK_NANOS"), (0, u "TIMEOUT"), (0, u "Ljava/lang/String;"), (1, u "UNLIMITED"), (5, u "untilStopped"), (0, u "()Lcom/example/tailwake/tailwake/capture/Reconnection;"), (0, u "withClock"), (0, u "(Lcom/example/tailwake/tailwake/capture/Reconnection$Clock;)Lcom/example/tailwake/tailwake/capture/Reconnection;"), (0, u "()I"), (6, .class_ 91), (0, u "com/example/tailwake/tailwake/capture/Reconnection$Clock$1")] 3

def k2c0 : Code := { maxStack := 2, maxLocals := 3, code := prog_13_method_1_code, exceptionTable := #[], attributes := #[] }
def k2m0 : Method := { name := "<init>", desc := "(ILcom/example/tailwake/tailwake/capture/Reconnection$Clock;)V", sig := { parameters := [.int, (.object "com/example/tailwake/tailwake/capture/Reconnection$Clock")], returnType := none }, accessFlags := 2, code := some k2c0 }
def k2c1 : Code := { maxStack := 4, maxLocals := 0, code := prog_13_method_3_code, exceptionTable := #[], attributes := #[] }
def k2m1 : Method := { name := "untilStopped", desc := "()Lcom/example/tailwake/tailwake/capture/Reconnection;", sig := { parameters := [], returnType := some (.object "com/example/tailwake/tailwake/capture/Reconnection") }, accessFlags := 9, code := some k2c1 }
def k2c2 : Code := { maxStack := 4, maxLocals := 2, code := prog_13_method_4_code, exceptionTable := #[], attributes := #[] }
def k2m2 : Method := { name := "withClock", desc := "(Lcom/example/tailwake/tailwake/capture/Reconnection$Clock;)Lcom/example/tailwake/tailwake/capture/Reconnection;", sig := { parameters := [(.object "com/example/tailwake/tailwake/capture/Reconnection$Clock")], returnType := some (.object "com/example/tailwake/tailwake/capture/Reconnection") }, accessFlags := 0, code := some k2c2 }
def k2c3 : Code := { maxStack := 1, maxLocals := 1, code := prog_13_method_5_code, exceptionTable := #[], attributes := #[] }
def k2m3 : Method := { name := "timeoutMillis", desc := "()I", sig := { parameters := [], returnType := some .int }, accessFlags := 1, code := some k2c3 }
/-- com/example/tailwake/tailwake/capture/Reconnection -/
def k2 : Class := { plain "com/example/tailwake/tailwake/capture/Reconnection" (some 0) with
  accessFlags := 49
  interfaces := #[]
  cf := some (fileOf pool2 8 #[.nestMembers #[19, 90, 43]] #[{ accessFlags := 2, nameIndex := 5, descriptorIndex := 42, attributes := #[] }, { accessFlags := 9, nameIndex := 79, descriptorIndex := 80, attributes := #[] }, { accessFlags := 0, nameIndex := 81, descriptorIndex := 82, attributes := #[] }, { accessFlags := 1, nameIndex := 11, descriptorIndex := 83, attributes := #[] }] 49 2 #[] #[{ accessFlags := 25, nameIndex := 70, descriptorIndex := 71, attributes := #[] }, { accessFlags := 26, nameIndex := 73, descriptorIndex := 12, attributes := #[] }, { accessFlags := 26, nameIndex := 60, descriptorIndex := 61, attributes := #[] }, { accessFlags := 26, nameIndex := 69, descriptorIndex := 61, attributes := #[] }, { accessFlags := 18, nameIndex := 11, descriptorIndex := 12, attributes := #[] }, { accessFlags := 18, nameIndex := 23, descriptorIndex := 24, attributes := #[] }])
  fields := #[{ name := "TIMEOUT", type := (.object "java/lang/String"), accessFlags := 25, slot := 0, constantValue := 0 }, { name := "UNLIMITED", type := .int, accessFlags := 26, slot := 1, constantValue := 0 }, { name := "INTERVAL_NANOS", type := .long, accessFlags := 26, slot := 2, constantValue := 0 }, { name := "STOP_CHECK_NANOS", type := .long, accessFlags := 26, slot := 3, constantValue := 0 }, { name := "timeoutMillis", type := .int, accessFlags := 18, slot := 0, constantValue := 0 }, { name := "clock", type := (.object "com/example/tailwake/tailwake/capture/Reconnection$Clock"), accessFlags := 18, slot := 1, constantValue := 0 }]
  methods := #[k2m0, k2m1, k2m2, k2m3]
  instanceTypes := #[.int, (.object "com/example/tailwake/tailwake/capture/Reconnection$Clock")]
  staticTypes := #[(.object "java/lang/String"), .int, .long, .long]
  resolved := Array.replicate 95 none
  statics := none }

def pool3 : Array CpInfo := pool [(8, .class_ 10), (1, u "com/example/tailwake/tailwake/capture/Reconnection$Clock"), (0, u "SYSTEM"), (0, u "Lcom/example/tailwake/tailwake/capture/Reconnection$Clock;"), (0, .class_ 14), (0, u "java/lang/Object"), (10, .class_ 26), (0, u "com/example/tailwake/tailwake/capture/Reconnection")] 2

/-- com/example/tailwake/tailwake/capture/Reconnection$Clock -/
def k3 : Class := { plain "com/example/tailwake/tailwake/capture/Reconnection$Clock" (some 0) with
  accessFlags := 1536
  interfaces := #[]
  cf := some (fileOf pool3 8 #[.nestHost 25] #[] 1536 13 #[] #[{ accessFlags := 25, nameIndex := 11, descriptorIndex := 12, attributes := #[] }])
  fields := #[{ name := "SYSTEM", type := (.object "com/example/tailwake/tailwake/capture/Reconnection$Clock"), accessFlags := 25, slot := 0, constantValue := 0 }]
  methods := #[]
  instanceTypes := #[]
  staticTypes := #[(.object "com/example/tailwake/tailwake/capture/Reconnection$Clock")]
  resolved := Array.replicate 29 none
  statics := some 0 }

def pool4 : Array CpInfo := pool [(2, .class_ 4), (1, u "java/lang/Object"), (0, u "<init>"), (0, u "()V"), (35, .class_ 44), (1, u "java/util/Objects"), (0, u "requireNonNull"), (0, u "(Ljava/lang/Object;)Ljava/lang/Object;")] 137

def k4m0 : Method := { name := "<init>", desc := "()V", sig := { parameters := [], returnType := none }, accessFlags := 2, code := none }
def k4c1 : Code := { maxStack := 2, maxLocals := 1, code := jdk_31_method_10_code, exceptionTable := #[], attributes := #[] }
def k4m1 : Method := { name := "requireNonNull", desc := "(Ljava/lang/Object;)Ljava/lang/Object;", sig := { parameters := [(.object "java/lang/Object")], returnType := some (.object "java/lang/Object") }, accessFlags := 9, code := some k4c1 }
/-- java/util/Objects -/
def k4 : Class := { plain "java/util/Objects" (some 0) with
  accessFlags := 49
  interfaces := #[]
  cf := some (fileOf pool4 42 #[] #[{ accessFlags := 2, nameIndex := 5, descriptorIndex := 6, attributes := #[] }, { accessFlags := 9, nameIndex := 45, descriptorIndex := 46, attributes := #[] }] 49 2 #[] #[])
  fields := #[]
  methods := #[k4m0, k4m1]
  instanceTypes := #[]
  staticTypes := #[]
  resolved := Array.replicate 184 none
  statics := none }

def pool5 : Array CpInfo := pool [(2, .class_ 4), (1, u "java/lang/Object"), (0, u "<init>"), (0, u "()V"), (12, .class_ 20), (0, u "com/example/tailwake/tailwake/capture/Reconnection$Clock$1"), (0, .class_ 22), (0, u "com/example/tailwake/tailwake/capture/Reconnection$Clock"), (7, .class_ 31), (0, u "com/example/tailwake/tailwake/capture/Reconnection")] 2

def k5m0 : Method := { name := "<init>", desc := "()V", sig := { parameters := [], returnType := none }, accessFlags := 0, code := none }
/-- com/example/tailwake/tailwake/capture/Reconnection$Clock$1 -/
def k5 : Class := { plain "com/example/tailwake/tailwake/capture/Reconnection$Clock$1" (some 0) with
  accessFlags := 32
  interfaces := #[3]
  cf := some (fileOf pool5 19 #[.nestHost 30] #[{ accessFlags := 0, nameIndex := 5, descriptorIndex := 6, attributes := #[] }] 32 2 #[21] #[])
  fields := #[]
  methods := #[k5m0]
  instanceTypes := #[]
  staticTypes := #[]
  resolved := Array.replicate 34 none
  statics := none }

def pool6 : Array CpInfo := pool [(1, u "java/lang/Cloneable"), (0, .class_ 1), (0, u "java/lang/Object"), (0, .class_ 3)] 3

/-- java/lang/Cloneable -/
def k6 : Class := { plain "java/lang/Cloneable" (some 0) with
  accessFlags := 1537
  interfaces := #[]
  cf := some (fileOf pool6 2 #[] #[] 1537 4 #[] #[])
  fields := #[]
  methods := #[]
  instanceTypes := #[]
  staticTypes := #[]
  resolved := Array.replicate 8 none
  statics := none }

def pool7 : Array CpInfo := pool [(1, u "java/io/Serializable"), (0, .class_ 1), (0, u "java/lang/Object"), (0, .class_ 3)] 3

/-- java/io/Serializable -/
def k7 : Class := { plain "java/io/Serializable" (some 0) with
  accessFlags := 1537
  interfaces := #[]
  cf := some (fileOf pool7 2 #[] #[] 1537 4 #[] #[])
  fields := #[]
  methods := #[]
  instanceTypes := #[]
  staticTypes := #[]
  resolved := Array.replicate 8 none
  statics := none }

/-- the primitive byte -/
def k8 : Class := { plain "byte" none with kind := .primitive 'B', accessFlags := 0x411 }
/-- [B -/
def k9 : Class := { plain "[B" (some 0) with kind := .array 8 .byte, interfaces := #[6, 7], accessFlags := 1041 }

/-- the primitive int -/
def k10 : Class := { plain "int" none with kind := .primitive 'I', accessFlags := 0x411 }
/-- [I -/
def k11 : Class := { plain "[I" (some 0) with kind := .array 10 .int, interfaces := #[6, 7], accessFlags := 1041 }

def heap : Heap := #[{ cls := 3, slots := #[.ref 1], vm := .statics 3 },
  { cls := 5, slots := #[], vm := .none }]
def classes : Array Class := #[k0, k1, k2, k3, k4, k5, k6, k7, k8, k9, k10, k11]
def interned : List (Array UInt16 × Addr) := []
def slotsUsed : Nat := 1
def theMethod : MethodId := ⟨1, 1⟩
def args0 : Array Value := #[.int 5]
def aboutOver (below : List Frame) : State where
  vm := { classes := classes, interned := interned.toArray }
  heap := heap
  slotsUsed := slotsUsed
  threads := #[{ frames := .invoking theMethod args0 :: below }]
def below0 : List Frame := [.native { method := ⟨0, 0⟩, args := #[] }]
def about1 : State := aboutOver below0
def p0 : Program := .bare "" "" ""
def e0 : Env := launch0.env 0 0 0
theorem w_frames : about1.frames = Frame.invoking theMethod args0 :: below0 := rfl
set_option maxRecDepth 65536 in
theorem w_args : argsFit about1.vm theMethod args0 = true := by decide +kernel
set_option maxRecDepth 65536 in
theorem w_heap : heapFits about1 = true := by decide +kernel
set_option maxRecDepth 65536 in
theorem w_runnable : about1.curStatus? = some .runnable := by decide +kernel
set_option maxRecDepth 65536 in
theorem w_alone : about1.alone = true := by decide +kernel
set_option maxRecDepth 65536 in
theorem w_named : about1.methodNamed? x = some theMethod := by decide +kernel
set_option maxRecDepth 65536 in
theorem w_hears : about1.hears theMethod below0 = true := by decide +kernel
set_option maxRecDepth 65536 in
theorem w_ripe : about1.ripe theMethod args0 below0 = true := by decide +kernel
theorem w_running : about1.status = .running := rfl
set_option maxRecDepth 65536 in
theorem w_room : about1.hasRoom e0.platform room_1 = true :=
  launch0.hasRoom_least _ room_1 (by decide +kernel) (by decide +kernel) (by decide +kernel) (by decide +kernel) (by decide +kernel) (by decide +kernel)
theorem allAtoms_all (ts : List Jvm.Cond) (a : Array Jvm.Value) (st : Jvm.State) : (allAtoms ts).before a st = ts.all (fun c => c.before a st) := by
  induction ts with
  | nil => rfl
  | cons c t ih =>
    show (Jvm.Cond.and c (allAtoms t)).before a st = _
    rw [Jvm.Cond.before_and, ih, List.all_cons]
def words1 : List Jvm.Cond := Jvm.Cond.code x code maxLocals ret :: tables_1
/-- a 'code' word, met by the world's own term for the bytes: nothing is compared byte by byte -/
theorem code_word {y : MethodName} {bytes : ByteArray} {mx : Nat} {rt : Option FieldType} {a : Array Value} {s : State} {m : MethodId} {meth : Method} {c : Code} (h1 : s.methodNamed? y = some m) (h2 : s.vm.method? m = some meth) (h3 : meth.code = some c) (h4 : c.code = bytes)
    (h5 : (c.maxLocals == mx && c.exceptionTable.isEmpty && decide (c.maxStack ≤ mostOperands) && decide (meth.sig.returnType = rt) && !meth.locks && decide (parseMethodDescriptor y.desc = some meth.sig)) = true) : (Jvm.Cond.code y bytes mx rt).before a s = true := by
  simp only [Bool.and_eq_true, beq_iff_eq, Bool.not_eq_true', decide_eq_true_eq] at h5
  obtain ⟨⟨⟨⟨⟨g1, g2⟩, g3⟩, g4⟩, g5⟩, g6⟩ := h5
  simp [Cond.before, Cond.holds, Cond.value, h1, h2, h3, h4, g1, g2, g3, g4, g5, g6]
def isCode : Jvm.Cond → Bool
  | .code _ _ _ _ => true
  | _ => false
theorem all_split {L : List Jvm.Cond} {P : Jvm.Cond → Bool} (h1 : L.all (fun c => isCode c || P c) = true) (h2 : ∀ c ∈ L.filter isCode, P c = true) : L.all P = true := by
  refine List.all_eq_true.mpr fun c hc => ?_
  have h := List.all_eq_true.mp h1 c hc
  rcases Bool.eq_false_or_eq_true (isCode c) with hi | hi
  · exact h2 c (List.mem_filter.mpr ⟨hc, hi⟩)
  · simpa [hi] using h
set_option maxRecDepth 65536 in
theorem w_c0 : (Jvm.Cond.code x code maxLocals ret).before args0 about1 = true := code_word (m := ⟨1, 1⟩) (meth := k1m1) (c := k1c1) (by decide +kernel) rfl rfl rfl (by decide +kernel)
set_option maxRecDepth 65536 in
theorem w_c1 : (Jvm.Cond.code ({ cls := "com/example/tailwake/tailwake/capture/Reconnection", name := "untilStopped", desc := "()Lcom/example/tailwake/tailwake/capture/Reconnection;" } : Jvm.MethodName) prog_13_method_3_code (0 : Nat) (Option.some (Jvm.ClassFile.FieldType.object "com/example/tailwake/tailwake/capture/Reconnection"))).before args0 about1 = true := code_word (m := ⟨2, 1⟩) (meth := k2m1) (c := k2c1) (by decide +kernel) rfl rfl rfl (by decide +kernel)
set_option maxRecDepth 65536 in
theorem w_c2 : (Jvm.Cond.code ({ cls := "com/example/tailwake/tailwake/capture/Reconnection", name := "<init>", desc := "(ILcom/example/tailwake/tailwake/capture/Reconnection$Clock;)V" } : Jvm.MethodName) prog_13_method_1_code (3 : Nat) (Option.none : Option Jvm.ClassFile.FieldType)).before args0 about1 = true := code_word (m := ⟨2, 0⟩) (meth := k2m0) (c := k2c0) (by decide +kernel) rfl rfl rfl (by decide +kernel)
set_option maxRecDepth 65536 in
theorem w_c3 : (Jvm.Cond.code ({ cls := "java/lang/Object", name := "<init>", desc := "()V" } : Jvm.MethodName) object_method_1_code (1 : Nat) (Option.none : Option Jvm.ClassFile.FieldType)).before args0 about1 = true := code_word (m := ⟨0, 0⟩) (meth := k0m0) (c := k0c0) (by decide +kernel) rfl rfl rfl (by decide +kernel)
set_option maxRecDepth 65536 in
theorem w_c4 : (Jvm.Cond.code ({ cls := "java/util/Objects", name := "requireNonNull", desc := "(Ljava/lang/Object;)Ljava/lang/Object;" } : Jvm.MethodName) jdk_31_method_10_code (1 : Nat) (Option.some (Jvm.ClassFile.FieldType.object "java/lang/Object"))).before args0 about1 = true := code_word (m := ⟨4, 1⟩) (meth := k4m1) (c := k4c1) (by decide +kernel) rfl rfl rfl (by decide +kernel)
set_option maxRecDepth 65536 in
theorem w_c5 : (Jvm.Cond.code ({ cls := "com/example/tailwake/tailwake/capture/Reconnection", name := "timeoutMillis", desc := "()I" } : Jvm.MethodName) prog_13_method_5_code (1 : Nat) (Option.some Jvm.ClassFile.FieldType.int)).before args0 about1 = true := code_word (m := ⟨2, 3⟩) (meth := k2m3) (c := k2c3) (by decide +kernel) rfl rfl rfl (by decide +kernel)
set_option maxRecDepth 65536 in
theorem w_c6 : (Jvm.Cond.code ({ cls := "com/example/tailwake/tailwake/capture/Reconnection", name := "withClock", desc := "(Lcom/example/tailwake/tailwake/capture/Reconnection$Clock;)Lcom/example/tailwake/tailwake/capture/Reconnection;" } : Jvm.MethodName) prog_13_method_4_code (2 : Nat) (Option.some (Jvm.ClassFile.FieldType.object "com/example/tailwake/tailwake/capture/Reconnection"))).before args0 about1 = true := code_word (m := ⟨2, 2⟩) (meth := k2m2) (c := k2c2) (by decide +kernel) rfl rfl rfl (by decide +kernel)
def codes1 : List Jvm.Cond := [Jvm.Cond.code x code maxLocals ret, Jvm.Cond.code ({ cls := "com/example/tailwake/tailwake/capture/Reconnection", name := "untilStopped", desc := "()Lcom/example/tailwake/tailwake/capture/Reconnection;" } : Jvm.MethodName) prog_13_method_3_code (0 : Nat) (Option.some (Jvm.ClassFile.FieldType.object "com/example/tailwake/tailwake/capture/Reconnection")), Jvm.Cond.code ({ cls := "com/example/tailwake/tailwake/capture/Reconnection", name := "<init>", desc := "(ILcom/example/tailwake/tailwake/capture/Reconnection$Clock;)V" } : Jvm.MethodName) prog_13_method_1_code (3 : Nat) (Option.none : Option Jvm.ClassFile.FieldType), Jvm.Cond.code ({ cls := "java/lang/Object", name := "<init>", desc := "()V" } : Jvm.MethodName) object_method_1_code (1 : Nat) (Option.none : Option Jvm.ClassFile.FieldType), Jvm.Cond.code ({ cls := "java/util/Objects", name := "requireNonNull", desc := "(Ljava/lang/Object;)Ljava/lang/Object;" } : Jvm.MethodName) jdk_31_method_10_code (1 : Nat) (Option.some (Jvm.ClassFile.FieldType.object "java/lang/Object")), Jvm.Cond.code ({ cls := "com/example/tailwake/tailwake/capture/Reconnection", name := "timeoutMillis", desc := "()I" } : Jvm.MethodName) prog_13_method_5_code (1 : Nat) (Option.some Jvm.ClassFile.FieldType.int), Jvm.Cond.code ({ cls := "com/example/tailwake/tailwake/capture/Reconnection", name := "withClock", desc := "(Lcom/example/tailwake/tailwake/capture/Reconnection$Clock;)Lcom/example/tailwake/tailwake/capture/Reconnection;" } : Jvm.MethodName) prog_13_method_4_code (2 : Nat) (Option.some (Jvm.ClassFile.FieldType.object "com/example/tailwake/tailwake/capture/Reconnection"))]
set_option maxRecDepth 65536 in
theorem codes_eq : words1.filter isCode = codes1 := rfl
theorem w_codes : ∀ c ∈ words1.filter isCode, c.before args0 about1 = true := by
  rw [codes_eq]
  intro c hc
  simp only [codes1, List.mem_cons, List.not_mem_nil, or_false] at hc
  rcases hc with rfl | rfl | rfl | rfl | rfl | rfl | rfl
  · exact w_c0
  · exact w_c1
  · exact w_c2
  · exact w_c3
  · exact w_c4
  · exact w_c5
  · exact w_c6
set_option maxRecDepth 65536 in
theorem w_t1 : (words1.take 24).all (fun c => isCode c || c.before args0 about1) = true := by decide +kernel
set_option maxRecDepth 65536 in
theorem w_t2 : (words1.drop 24).all (fun c => isCode c || c.before args0 about1) = true := by decide +kernel
theorem w_tables : (allAtoms (Jvm.Cond.code x code maxLocals ret :: tables_1)).before args0 about1 = true := by
  rw [allAtoms_all]
  show words1.all (fun c => c.before args0 about1) = true
  refine all_split ?_ w_codes
  rw [← List.take_append_drop 24 words1, List.all_append, w_t1, w_t2]
  rfl
set_option maxRecDepth 65536 in
theorem w_case : (Jvm.Cond.and given_1 narrow_1).before args0 about1 = true := by decide +kernel
theorem w_applies : (headSpec (Jvm.Cond.code x code maxLocals ret :: tables_1) room_1).applies x e0.platform about1 = true :=
  (Spec.applies_iff w_frames).mpr ⟨w_running, w_runnable, w_alone, w_named, w_hears, w_ripe, w_room, w_tables⟩
theorem atStart : AtStart classFile x code maxLocals ret World_1 tables_1 room_1 Calls_1 rest_1 Pre_1 launch0 p0 e0 about1 theMethod args0 below0 :=
  ⟨lists_1, trivial, launch0.admits_env _ _ _, launch0.least_env, fairChoices_fair.cas, fairChoices_fair.clock, w_frames, w_args, w_heap, w_applies, trivial, trivial, w_case⟩
end start1
theorem witness_1 : WitnessClaimed_1 := ⟨start1.p0, start1.e0, start1.about1, start1.theMethod, start1.args0, start1.below0, start1.atStart⟩
end Jvm.Pilot.@@N@@
