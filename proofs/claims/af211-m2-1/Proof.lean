import JvmDerived
import JvmDerived.Pilot.@@N@@Statement
import JvmDerived.Pilot.@@N@@Code
set_option linter.unusedVariables false
set_option linter.unusedSimpArgs false
namespace Jvm.RoadKit
open Sem ClassFile Op Lib Jvm.Stand Jvm.Free Jvm.LawKit
section New
variable {p : Program} {l : Launch} {e : Env} {R : Room} {s : State} {m : MethodId} {args : Array Value} {below : List Frame} {meth : Method} {c : Code} {T : State} {locs : List Loc} {cells slots : Nat}
theorem retI (X : Stand p l e R s m args below meth c T locs cells slots) (hx : p.tables.exec = Jvm.exec) {pc : Nat} {Ls : Array Slot} {z : Int32} {rest : List Value} (hret : meth.sig.returnType = some .int) (hd : decode c.code pc = .ok (.ireturn, 1)) {fs : List Frame}
    (hl : ∀ (f : JFrame) (acts : List Action), f.method = m → f.locked = none → f.entered = [] → (doReturn e (T.setTop f) acts (some (.int z))).1 = T.setFrames fs) : Steps p.tables e below (T.setTop (mkF m pc Ls (.int z :: rest))) (T.setFrames fs) := by
  have hm' : T.vm.method? m = some meth := X.method'
  have hn : narrow .int (.int z) = .int z := rfl
  show Steps p.tables e below (T.setTop { method := m, pc := pc, locals := Ls, stack := _ :: rest, locked := none }) _
  jvm_step X.here [X.here.top, hx, hd, hm', hret, hn]
  first | (intro acts; rw [hl _ acts rfl rfl rfl]) | rw [hl _ _ rfl rfl rfl]
  exact Steps.refl _
end New
end Jvm.RoadKit
namespace Jvm.Pilot.@@N@@
open Jvm Jvm.ClassFile Sem Op Lib Jvm.Free Jvm.Stand Jvm.LawKit Jvm.RoadKit Bundle Jvm.Pilot.@@N@@.Jvm.D
def Av (Z : State) (h : Heap) (a : Addr) (ty : FieldType) (n : Int32) (vs : List Value) (d : Value) : Prop := ∃ k, Arv Z h a k ty n vs d
theorem Av.lt {Z : State} {h : Heap} {a : Addr} {ty : FieldType} {n : Int32} {vs : List Value} {d : Value} (F : Av Z h a ty n vs d) : a < h.size := by obtain ⟨k, F⟩ := F; exact F.lt
theorem Av.ext {Z : State} {h h' : Heap} {a : Addr} {ty : FieldType} {n : Int32} {vs : List Value} {d : Value} (F : Av Z h a ty n vs d) (E : Ext h h') : Av Z h' a ty n vs d := by obtain ⟨k, F⟩ := F; exact ⟨k, F.ext E⟩
theorem Av.other {Z : State} {h h' : Heap} {a b : Addr} {ty : FieldType} {n : Int32} {vs : List Value} {d : Value} {sl : Nat} {v : Value} (F : Av Z h b ty n vs d) (W : Wr h h' a sl v) (q : b ≠ a) : Av Z h' b ty n vs d := by obtain ⟨k, F⟩ := F; exact ⟨k, F.other W q⟩
def Al (Z : State) (h : Heap) (a : Addr) (ty : FieldType) (n : Int32) : Prop := ∃ c : Cell, Arr Z h a c ty ∧ c.slots.size = n.toNatClampNeg ∧ ¬ n < 0
theorem Al.lt {Z : State} {h : Heap} {a : Addr} {ty : FieldType} {n : Int32} (F : Al Z h a ty n) : a < h.size := by obtain ⟨c, A, -⟩ := F; exact A.lt
theorem Al.ext {Z : State} {h h' : Heap} {a : Addr} {ty : FieldType} {n : Int32} (F : Al Z h a ty n) (E : Ext h h') : Al Z h' a ty n := by obtain ⟨c, A, r⟩ := F; exact ⟨c, A.ext E, r⟩
theorem Al.other {Z : State} {h h' : Heap} {a b : Addr} {ty : FieldType} {n : Int32} {sl : Nat} {v : Value} (F : Al Z h b ty n) (W : Wr h h' a sl v) (q : b ≠ a) : Al Z h' b ty n := by obtain ⟨c, A, r⟩ := F; exact ⟨c, A.other W q, r⟩
theorem Al.same {Z : State} {h h' : Heap} {a : Addr} {ty : FieldType} {n : Int32} {sl : Nat} {v : Value} (F : Al Z h a ty n) (W : Wr h h' a sl v) : Al Z h' a ty n := by obtain ⟨c, A, r⟩ := F; exact ⟨_, A.same W, by rw [sz_set]; exact r.1, r.2⟩
theorem Al.keep {Z : State} {h h' : Heap} {a : Addr} {ty : FieldType} {n : Int32} {ws : List Addr} (F : Al Z h a ty n) (K : Keep h h' ws) (q : a ∉ ws) : Al Z h' a ty n := by obtain ⟨c, A, r⟩ := F; exact ⟨c, ⟨K.2.1 a c A.1 q, A.2⟩, r⟩
theorem Av.al {Z : State} {h : Heap} {a : Addr} {ty : FieldType} {n : Int32} {vs : List Value} {d : Value} (F : Av Z h a ty n vs d) : Al Z h a ty n := by obtain ⟨k, c, A, -, r1, r2, -⟩ := F; exact ⟨c, A, r1, r2⟩
theorem Av.keep {Z : State} {h h' : Heap} {a : Addr} {ty : FieldType} {n : Int32} {vs : List Value} {d : Value} {ws : List Addr} (F : Av Z h a ty n vs d) (K : Keep h h' ws) (q : a ∉ ws) : Av Z h' a ty n vs d := by obtain ⟨k, F⟩ := F; exact ⟨k, F.keep K q⟩
abbrev MN1 : MethodName := ⟨"com/example/iskati/iskati/rank/EntityText", "of", "([J)J"⟩
theorem own_eqv {args : Array Value} {s : State} {t : Term} {k : Int32} (h : (Jvm.Cond.eq t (.int k)).value args s none s [] = some true) : t.eval args s none [] s = some (.int k) := by
  cases ht : t.eval args s none [] s with
  | none => simp [Jvm.Cond.value, ht] at h
  | some v => cases v <;> simp [Jvm.Cond.value, ht, Term.eval] at h ⊢; exact h
theorem d1_0 : decode prog_19_method_2_code 0 = .ok (.aload_n 0, 1) := by decide +kernel
theorem d1_1 : decode prog_19_method_2_code 1 = .ok (.getstatic 7, 3) := by decide +kernel
theorem d1_4 : decode prog_19_method_2_code 4 = .ok (.laload, 1) := by decide +kernel
theorem d1_5 : decode prog_19_method_2_code 5 = .ok (.aload_n 0, 1) := by decide +kernel
theorem d1_6 : decode prog_19_method_2_code 6 = .ok (.getstatic 13, 3) := by decide +kernel
theorem d1_9 : decode prog_19_method_2_code 9 = .ok (.laload, 1) := by decide +kernel
theorem d1_10 : decode prog_19_method_2_code 10 = .ok (.ladd, 1) := by decide +kernel
theorem d1_11 : decode prog_19_method_2_code 11 = .ok (.lreturn, 1) := by decide +kernel
theorem pn_com_example_iskati_iskati_rank_EntityText : plainName "com/example/iskati/iskati/rank/EntityText" = true := by first | (simp [plainName, overriddenIn]; done) | decide +kernel
theorem ef_rm1 (m : MethodId) (x0 : Addr) : entryFrame m #[(.ref x0)] 1 = mkF m 0 #[rv x0] [] := by first | (simp [entryFrame, mkF, argsToLocals, Value.category]; done) | rfl
def Q_rm1 (Z : State) (a1_0 : Addr) (x0 : Int64) (x1 : Int64) (x2 : Int64) (x3 : Int64) (h0 : Heap) (n0 : Nat) (v : Option Value) (h : Heap) (L : List Loc) : Prop := v = some (.long (x0 + x1)) ∧ Fr n0 L ∧ h = h0
set_option maxRecDepth 65536 in
set_option maxHeartbeats 40000000 in
theorem rm1 (l : Launch) (Z : State) (a0 : Array Value) (hw : ∀ d ∈ tables_1, d.before a0 Z = true) (ws : List Jvm.Cond) (a1_0 : Addr) (x0 : Int64) (x1 : Int64) (x2 : Int64) (x3 : Int64) (h0 : Heap) (n0 : Nat) (Z0 : n0 ≤ h0.size) (pf_O : Old Z n0 h0) (pf_S_com_example_iskati_iskati_rank_EntityText_NAMES : Sta Z Z.heap "com/example/iskati/iskati/rank/EntityText" "NAMES" "I" (.int (0 : Int32))) (pf_S_com_example_iskati_iskati_rank_EntityText_ATTRIBUTES : Sta Z Z.heap "com/example/iskati/iskati/rank/EntityText" "ATTRIBUTES" "I" (.int (1 : Int32))) (pf_A_a1_0 : Av Z h0 a1_0 .long (4 : Int32) [(.long x0), (.long x1), (.long x2), (.long x3)] (.long (0 : Int64))) :
    MetFree l (⟨"com/example/iskati/iskati/rank/EntityText", "of", "([J)J"⟩ : MethodName) (head1 (Jvm.Cond.code (⟨"com/example/iskati/iskati/rank/EntityText", "of", "([J)J"⟩ : MethodName) prog_19_method_2_code 1 (some .long) :: ws) ({ frames := 0, cells := 0, slots := 0, locals := 0 } : Room)) (fun a U => a = #[(.ref a1_0)] ∧ Z.Warmed39 U.vm ∧ U.heap = h0) (fun _ _ _ _ _ => True) (fun _ U o U' => ∃ v L, o = .returned v ∧ Q_rm1 Z a1_0 x0 x1 x2 x3 h0 n0 v U'.heap L ∧ FrameEnd U o U' L ({ frames := 0, cells := 0, slots := 0, locals := 0 } : Room).cells ({ frames := 0, cells := 0, slots := 0, locals := 0 } : Room).slots) := by
  refine MetFree.of_bodySF (plainFor_of_name pn_com_example_iskati_iskati_rank_EntityText) hisR ?_
  intro p e s m args below meth c s₁ Bd hml0 hP hK
  obtain ⟨rfl, hZ, hh⟩ := hP
  have hx := Bd.exec
  have hby := Bd.bytes
  have hml : c.maxLocals = 1 := hml0
  have hown : s.vm.findClass "com/example/iskati/iskati/rank/EntityText" = some m.cls := findClass_of_methodNamed Bd.named
  have hnm := (name_of_methodNamed Bd.named Bd.method).1
  have X0 : Stand p l e ({ frames := 0, cells := 0, slots := 0, locals := 0 } : Room) s m #[(.ref a1_0)] below meth c s₁ [] 0 0 := Stand.of_body Bd
  have e0 : s₁.heap = h0 := by rw [← hh, Bd.state]; rfl
  have N0 := Fr.nil n0
  have pre0 : ∀ t, Steps p.tables e below (s₁.setTop (mkF m 0 #[rv a1_0] [])) t → Steps p.tables e below (s₁.setTop (entryFrame m #[(.ref a1_0)] 1)) t := fun t k => castTop (ef_rm1 m a1_0) k
  have wo5 := hw _ (List.mem_of_getElem? (i := 5) rfl)
  have wo7 := hw _ (List.mem_of_getElem? (i := 7) rfl)
  obtain ⟨T1, X1, e1, st1⟩ := getS2 X0 hx hZ hown (host := "") (Or.inl wo5) Via.refl e0 (pf_S_com_example_iskati_iskati_rank_EntityText_NAMES.ext pf_O.2) (g := (mkF m 1 #[rv a1_0] [(.ref a1_0)])) rfl (hb hby d1_1)
  obtain ⟨kk2, cl2, Ar2, qq2, Sz2, Nn2, Hs2, Gf2⟩ := id pf_A_a1_0
  have hin3 : ¬ ((0 : Int32) < 0 ∨ cl2.slots.size ≤ ((0 : Int32)).toNatClampNeg) := inb_of Sz2 ⟨by decide, by decide⟩
  have hat4 : cl2.slots[((0 : Int32)).toNatClampNeg]? = some (.long x0) := Has.at Hs2 hin3 rfl
  obtain ⟨T5, X5, e5, st5⟩ := getS2 X1 hx hZ hown (host := "") (Or.inl wo7) Via.refl e1 (pf_S_com_example_iskati_iskati_rank_EntityText_ATTRIBUTES.ext pf_O.2) (g := (mkF m 6 #[rv a1_0] [(.ref a1_0), (.long x0)])) rfl (hb hby d1_6)
  obtain ⟨kk6, cl6, Ar6, qq6, Sz6, Nn6, Hs6, Gf6⟩ := id pf_A_a1_0
  have hin7 : ¬ ((1 : Int32) < 0 ∨ cl6.slots.size ≤ ((1 : Int32)).toNatClampNeg) := inb_of Sz6 ⟨by decide, by decide⟩
  have hat8 : cl6.slots[((1 : Int32)).toNatClampNeg]? = some (.long x1) := Has.at Hs6 hin7 rfl
  obtain ⟨fs, hr, hrun, hended, hW, hsame⟩ := X5.leave (v := some (.long (x0 + x1))) (fun h => by rw [Bd.returns] at h; cases h)
  refine ⟨_, _, pre0 _ ?_, hrun, hended, _, _, rfl, ?_, ⟨_, rfl⟩, hW, hsame.mono (by decide) (by decide)⟩
  · show Steps p.tables e below (s₁.setTop (mkF m 0 #[rv a1_0] [])) _
    refine XS.aloadN X0.here hx rfl (hb hby d1_0) rfl rfl ?_
    show Steps p.tables e below (s₁.setTop (mkF m 1 #[rv a1_0] [(.ref a1_0)])) _
    refine st1 _ ?_
    show Steps p.tables e below (T1.setTop (mkF m 4 #[rv a1_0] [(.int (0 : Int32)), (.ref a1_0)])) _
    refine X1.laload hx (j := (0 : Int32)) (v := (.long x0)) (by rw [e1]; exact Ar2.1) (State.isArrayOf_alike hZ.alike Ar2.2.1) Ar2.2.2 hin3 hat4 (g := (mkF m 4 #[rv a1_0] [(.int (0 : Int32)), (.ref a1_0)])) rfl rfl (hb hby d1_4) _ ?_
    show Steps p.tables e below (T1.setTop (mkF m 5 #[rv a1_0] [(.long x0)])) _
    refine XS.aloadN X1.here hx rfl (hb hby d1_5) rfl rfl ?_
    show Steps p.tables e below (T1.setTop (mkF m 6 #[rv a1_0] [(.ref a1_0), (.long x0)])) _
    refine st5 _ ?_
    show Steps p.tables e below (T5.setTop (mkF m 9 #[rv a1_0] [(.int (1 : Int32)), (.ref a1_0), (.long x0)])) _
    refine X5.laload hx (j := (1 : Int32)) (v := (.long x1)) (by rw [e5]; exact Ar6.1) (State.isArrayOf_alike hZ.alike Ar6.2.1) Ar6.2.2 hin7 hat8 (g := (mkF m 9 #[rv a1_0] [(.int (1 : Int32)), (.ref a1_0), (.long x0)])) rfl rfl (hb hby d1_9) _ ?_
    show Steps p.tables e below (T5.setTop (mkF m 10 #[rv a1_0] [(.long x1), (.long x0)])) _
    refine XS.ladd X5.here hx rfl (hb hby d1_10) rfl ?_
    show Steps p.tables e below (T5.setTop (mkF m 11 #[rv a1_0] [(.long (x0 + x1))])) _
    exact retOut X5 hx Bd.returns rfl (Or.inr (Or.inl ⟨rfl, rfl, _, rfl⟩)) (hb hby d1_11) hr
  · show Q_rm1 Z _ _ _ _ _ h0 n0 _ T5.heap _
    rw [e5]
    exact ⟨rfl, N0, rfl⟩
theorem pd_0 : parseMethodDescriptor "([J)J" = some ⟨[(.array .long)], some .long⟩ := by decide +kernel
theorem pn_com_example_iskati_iskati_rank_EntityTextOfPinLaw : plainName "com/example/iskati/iskati/rank/EntityTextOfPinLaw" = true := by first | (simp [plainName, overriddenIn]; done) | decide +kernel
theorem ef_rm0 (m : MethodId) (x0 : Int64) (x1 : Int64) (x2 : Int64) (x3 : Int64) : entryFrame m #[(.long x0), (.long x1), (.long x2), (.long x3)] maxLocals = mkF m 0 #[.val (.long x0), .second, .val (.long x1), .second, .val (.long x2), .second, .val (.long x3), .second, .unset, .unset, .unset, .unset, .unset, .unset] [] := by first | (simp [entryFrame, mkF, argsToLocals, Value.category, maxLocals]; done) | rfl
def Q_rm0 (Z : State) (q0_0 : Int64) (q0_1 : Int64) (q0_2 : Int64) (q0_3 : Int64) (h0 : Heap) (n0 : Nat) (v : Option Value) (h : Heap) (L : List Loc) : Prop := v = some (.int (1 : Int32)) ∧ Fr n0 L ∧ Keep h0 h []
set_option maxRecDepth 65536 in
set_option maxHeartbeats 40000000 in
theorem rm0 (l : Launch) (Z : State) (a0 : Array Value) (hw : ∀ d ∈ tables_1, d.before a0 Z = true) (ws : List Jvm.Cond) (q0_0 : Int64) (q0_1 : Int64) (q0_2 : Int64) (q0_3 : Int64) (h0 : Heap) (n0 : Nat) (Z0 : n0 ≤ h0.size) (pf_O : Old Z n0 h0) (pf_S_com_example_iskati_iskati_rank_EntityText_NAMES : Sta Z Z.heap "com/example/iskati/iskati/rank/EntityText" "NAMES" "I" (.int (0 : Int32))) (pf_S_com_example_iskati_iskati_rank_EntityText_ATTRIBUTES : Sta Z Z.heap "com/example/iskati/iskati/rank/EntityText" "ATTRIBUTES" "I" (.int (1 : Int32))) :
    MetFree l x (head1 (Jvm.Cond.code x code maxLocals ret :: ws) room_1) (fun a U => a = #[(.long q0_0), (.long q0_1), (.long q0_2), (.long q0_3)] ∧ Z.Warmed39 U.vm ∧ U.heap = h0) (fun _ _ _ _ _ => True) (fun _ U o U' => ∃ v L, o = .returned v ∧ Q_rm0 Z q0_0 q0_1 q0_2 q0_3 h0 n0 v U'.heap L ∧ FrameEnd U o U' L room_1.cells room_1.slots) := by
  refine MetFree.of_bodySF (plainFor_of_name pn_com_example_iskati_iskati_rank_EntityTextOfPinLaw) hisR ?_
  intro p e s m args below meth c s₁ Bd hml0 hP hK
  obtain ⟨rfl, hZ, hh⟩ := hP
  have hx := Bd.exec
  have hby := Bd.bytes
  have hml : c.maxLocals = 14 := hml0
  have hown : s.vm.findClass "com/example/iskati/iskati/rank/EntityTextOfPinLaw" = some m.cls := findClass_of_methodNamed Bd.named
  have hnm := (name_of_methodNamed Bd.named Bd.method).1
  have X0 : Stand p l e room_1 s m #[(.long q0_0), (.long q0_1), (.long q0_2), (.long q0_3)] below meth c s₁ [] 0 0 := Stand.of_body Bd
  have e0 : s₁.heap = h0 := by rw [← hh, Bd.state]; rfl
  have N0 := Fr.nil n0
  have pre0 : ∀ t, Steps p.tables e below (s₁.setTop (mkF m 0 #[.val (.long q0_0), .second, .val (.long q0_1), .second, .val (.long q0_2), .second, .val (.long q0_3), .second, .unset, .unset, .unset, .unset, .unset, .unset] [])) t → Steps p.tables e below (s₁.setTop (entryFrame m #[(.long q0_0), (.long q0_1), (.long q0_2), (.long q0_3)] maxLocals)) t := fun t k => castTop (ef_rm0 m q0_0 q0_1 q0_2 q0_3) k
  have wo0 := hw _ (List.mem_of_getElem? (i := 0) rfl)
  have wo1 := hw _ (List.mem_of_getElem? (i := 1) rfl)
  have wo2 := hw _ (List.mem_of_getElem? (i := 2) rfl)
  have wo3 := hw _ (List.mem_of_getElem? (i := 3) rfl)
  have wo4 := hw _ (List.mem_of_getElem? (i := 4) rfl)
  obtain ⟨T1, h1, k1, X1, e1, E1, A1, st1⟩ := newP (aty := .long) X0 hx hZ wo0 e0 (g := (mkF m 1 #[.val (.long q0_0), .second, .val (.long q0_1), .second, .val (.long q0_2), .second, .val (.long q0_3), .second, .unset, .unset, .unset, .unset, .unset, .unset] [(.int (4 : Int32))])) rfl (hb hby at_1) rfl (by decide) (cap := 4) (by decide) (by decide) (by decide) (by decide)
  obtain ⟨b1, gg1⟩ : ∃ z, z = h0.size := ⟨_, rfl⟩
  rw [← gg1] at A1 st1
  have g2 : n0 ≤ b1 := Nat.le_trans Z0 (Nat.le_of_eq gg1.symm)
  have bz3 : h0.size ≤ b1 := Nat.le_trans (Keep.refl h0 []).1 (Nat.le_of_eq gg1.symm)
  have K5 : Keep h0 h1 [] := (Keep.refl h0 []).ext E1
  have f4 : Av Z h1 b1 .long (4 : Int32) [(.long (0 : Int64)), (.long (0 : Int64)), (.long (0 : Int64)), (.long (0 : Int64))] (.long (0 : Int64)) := ⟨_, (Arv.new A1 (by decide)).pad (pad_rep [] (.long (0 : Int64)) 4)⟩
  obtain ⟨kk6, cl6, Ar6, qq6, Sz6, Nn6, Hs6, Gf6⟩ := id f4
  have hin7 : ¬ ((0 : Int32) < 0 ∨ cl6.slots.size ≤ ((0 : Int32)).toNatClampNeg) := inb_of Sz6 ⟨by decide, by decide⟩
  obtain ⟨T8, h8, X8, e8, W8, st8⟩ := stJ X1 hx hZ e1 Ar6 (j := (0 : Int32)) hin7 (g := (mkF m 9 #[.val (.long q0_0), .second, .val (.long q0_1), .second, .val (.long q0_2), .second, .val (.long q0_3), .second, rv b1, .unset, .unset, .unset, .unset, .unset] [(.long q0_0), (.int (0 : Int32)), (.ref b1)])) rfl rfl (hb hby at_9)
  have K9 : Keep h0 h8 [] := (K5).wr W8 (Or.inr bz3)
  have f10 : Av Z h8 b1 .long (4 : Int32) [(.long q0_0), (.long (0 : Int64)), (.long (0 : Int64)), (.long (0 : Int64))] (.long (0 : Int64)) := ⟨_, Arv.set Ar6 qq6 Sz6 Nn6 Hs6 Gf6 rfl W8 0 rfl (Nat.le_of_ble_eq_true rfl)⟩
  have N11 := Fr.snoc X8 N0 g2
  obtain ⟨kk12, cl12, Ar12, qq12, Sz12, Nn12, Hs12, Gf12⟩ := id f10
  have hin13 : ¬ ((1 : Int32) < 0 ∨ cl12.slots.size ≤ ((1 : Int32)).toNatClampNeg) := inb_of Sz12 ⟨by decide, by decide⟩
  obtain ⟨T14, h14, X14, e14, W14, st14⟩ := stJ X8 hx hZ e8 Ar12 (j := (1 : Int32)) hin13 (g := (mkF m 14 #[.val (.long q0_0), .second, .val (.long q0_1), .second, .val (.long q0_2), .second, .val (.long q0_3), .second, rv b1, .unset, .unset, .unset, .unset, .unset] [(.long q0_1), (.int (1 : Int32)), (.ref b1)])) rfl rfl (hb hby at_14)
  have K15 : Keep h0 h14 [] := (K9).wr W14 (Or.inr bz3)
  have f16 : Av Z h14 b1 .long (4 : Int32) [(.long q0_0), (.long q0_1), (.long (0 : Int64)), (.long (0 : Int64))] (.long (0 : Int64)) := ⟨_, Arv.set Ar12 qq12 Sz12 Nn12 Hs12 Gf12 rfl W14 1 rfl (Nat.le_of_ble_eq_true rfl)⟩
  have N17 := Fr.snoc X14 N11 g2
  obtain ⟨kk18, cl18, Ar18, qq18, Sz18, Nn18, Hs18, Gf18⟩ := id f16
  have hin19 : ¬ ((2 : Int32) < 0 ∨ cl18.slots.size ≤ ((2 : Int32)).toNatClampNeg) := inb_of Sz18 ⟨by decide, by decide⟩
  obtain ⟨T20, h20, X20, e20, W20, st20⟩ := stJ X14 hx hZ e14 Ar18 (j := (2 : Int32)) hin19 (g := (mkF m 20 #[.val (.long q0_0), .second, .val (.long q0_1), .second, .val (.long q0_2), .second, .val (.long q0_3), .second, rv b1, .unset, .unset, .unset, .unset, .unset] [(.long q0_2), (.int (2 : Int32)), (.ref b1)])) rfl rfl (hb hby at_20)
  have K21 : Keep h0 h20 [] := (K15).wr W20 (Or.inr bz3)
  have f22 : Av Z h20 b1 .long (4 : Int32) [(.long q0_0), (.long q0_1), (.long q0_2), (.long (0 : Int64))] (.long (0 : Int64)) := ⟨_, Arv.set Ar18 qq18 Sz18 Nn18 Hs18 Gf18 rfl W20 2 rfl (Nat.le_of_ble_eq_true rfl)⟩
  have N23 := Fr.snoc X20 N17 g2
  obtain ⟨kk24, cl24, Ar24, qq24, Sz24, Nn24, Hs24, Gf24⟩ := id f22
  have hin25 : ¬ ((3 : Int32) < 0 ∨ cl24.slots.size ≤ ((3 : Int32)).toNatClampNeg) := inb_of Sz24 ⟨by decide, by decide⟩
  obtain ⟨T26, h26, X26, e26, W26, st26⟩ := stJ X20 hx hZ e20 Ar24 (j := (3 : Int32)) hin25 (g := (mkF m 26 #[.val (.long q0_0), .second, .val (.long q0_1), .second, .val (.long q0_2), .second, .val (.long q0_3), .second, rv b1, .unset, .unset, .unset, .unset, .unset] [(.long q0_3), (.int (3 : Int32)), (.ref b1)])) rfl rfl (hb hby at_26)
  have K27 : Keep h0 h26 [] := (K21).wr W26 (Or.inr bz3)
  have f28 : Av Z h26 b1 .long (4 : Int32) [(.long q0_0), (.long q0_1), (.long q0_2), (.long q0_3)] (.long (0 : Int64)) := ⟨_, Arv.set Ar24 qq24 Sz24 Nn24 Hs24 Gf24 rfl W26 3 rfl (Nat.le_of_ble_eq_true rfl)⟩
  have N29 := Fr.snoc X26 N23 g2
  have f30 := (((((pf_O.ext E1).wr W8 g2).wr W14 g2).wr W20 g2).wr W26 g2)
  have f32 := (Nat.le_trans (Nat.le_trans (Nat.le_trans (Nat.le_trans (Nat.le_trans Z0 E1.1) (Keep.of_wr W8).1) (Keep.of_wr W14).1) (Keep.of_wr W20).1) (Keep.of_wr W26).1)
  obtain ⟨_, _, ⟨T31, L31, k31, n31⟩, -, X31, ⟨Lc31, hQ31, l31, y31, z31⟩, st31⟩ := Jvm.LawKit.callS X26 hx (y := MN1) hown (mvT hZ wo1) (mvT hZ wo2) (mvT hZ wo3) (mvT hZ wo4) (by decide) (backOf (W := 0) (rm1 l Z a0 hw [] b1 q0_0 q0_1 q0_2 q0_3 h26 n0 f32 f30 pf_S_com_example_iskati_iskati_rank_EntityText_NAMES pf_S_com_example_iskati_iskati_rank_EntityText_ATTRIBUTES f28) hZ wo4 wo3 (by decide) (by decide)) (g := (mkF m 29 #[.val (.long q0_0), .second, .val (.long q0_1), .second, .val (.long q0_2), .second, .val (.long q0_3), .second, rv b1, .unset, .unset, .unset, .unset, .unset] [(.ref b1)])) rfl (by rw [hml]; rfl) (argsL := [(.ref b1)]) (rest := []) (lenOf pd_0 rfl) rfl (by show 2 * 0 + _ ≤ _; exact Nat.le_of_eq rfl) (hb hby at_29) (fun _ _ => ⟨rfl, e26, (by decide : 1 + 0 ≤ _), (by decide : 4 + 0 ≤ _)⟩)
  dsimp only [Pt.U, Pt.locs, Pt.cells, Pt.slots] at X31 l31 y31 z31 st31 hQ31
  subst l31 y31 z31
  obtain ⟨rfl, N31q, K31q⟩ := hQ31
  have N33 := Fr.app N29 N31q
  obtain ⟨kk34, cl34, Ar34, qq34, Sz34, Nn34, Hs34, Gf34⟩ := id f28
  have hin35 : ¬ ((0 : Int32) < 0 ∨ cl34.slots.size ≤ ((0 : Int32)).toNatClampNeg) := inb_of Sz34 ⟨by decide, by decide⟩
  have hat36 : cl34.slots[((0 : Int32)).toNatClampNeg]? = some (.long q0_0) := Has.at Hs34 hin35 rfl
  have hc37 : (lcmpW q0_0 q0_0) = (0 : Int32) := (lw_eq _ _).mpr rfl
  obtain ⟨kk38, cl38, Ar38, qq38, Sz38, Nn38, Hs38, Gf38⟩ := id f28
  have hin39 : ¬ ((1 : Int32) < 0 ∨ cl38.slots.size ≤ ((1 : Int32)).toNatClampNeg) := inb_of Sz38 ⟨by decide, by decide⟩
  have hat40 : cl38.slots[((1 : Int32)).toNatClampNeg]? = some (.long q0_1) := Has.at Hs38 hin39 rfl
  have hc41 : (lcmpW q0_1 q0_1) = (0 : Int32) := (lw_eq _ _).mpr rfl
  obtain ⟨kk42, cl42, Ar42, qq42, Sz42, Nn42, Hs42, Gf42⟩ := id f28
  have hin43 : ¬ ((2 : Int32) < 0 ∨ cl42.slots.size ≤ ((2 : Int32)).toNatClampNeg) := inb_of Sz42 ⟨by decide, by decide⟩
  have hat44 : cl42.slots[((2 : Int32)).toNatClampNeg]? = some (.long q0_2) := Has.at Hs42 hin43 rfl
  have hc45 : (lcmpW q0_2 q0_2) = (0 : Int32) := (lw_eq _ _).mpr rfl
  obtain ⟨kk46, cl46, Ar46, qq46, Sz46, Nn46, Hs46, Gf46⟩ := id f28
  have hin47 : ¬ ((3 : Int32) < 0 ∨ cl46.slots.size ≤ ((3 : Int32)).toNatClampNeg) := inb_of Sz46 ⟨by decide, by decide⟩
  have hat48 : cl46.slots[((3 : Int32)).toNatClampNeg]? = some (.long q0_3) := Has.at Hs46 hin47 rfl
  have hc49 : (lcmpW q0_3 q0_3) = (0 : Int32) := (lw_eq _ _).mpr rfl
  have hc50 : (lcmpW (q0_0 + q0_1) (q0_0 + q0_1)) = (0 : Int32) := (lw_eq _ _).mpr rfl
  obtain ⟨fs, hr, hrun, hended, hW, hsame⟩ := X31.leave (v := some (.int (1 : Int32))) (fun h => by rw [Bd.returns] at h; cases h)
  refine ⟨_, _, pre0 _ ?_, hrun, hended, _, _, rfl, ?_, ⟨_, rfl⟩, hW, hsame.mono (by decide) (by decide)⟩
  · show Steps p.tables e below (s₁.setTop (mkF m 0 #[.val (.long q0_0), .second, .val (.long q0_1), .second, .val (.long q0_2), .second, .val (.long q0_3), .second, .unset, .unset, .unset, .unset, .unset, .unset] [])) _
    refine XS.iconst X0.here hx rfl (hb hby at_0) ?_
    show Steps p.tables e below (s₁.setTop (mkF m 1 #[.val (.long q0_0), .second, .val (.long q0_1), .second, .val (.long q0_2), .second, .val (.long q0_3), .second, .unset, .unset, .unset, .unset, .unset, .unset] [(.int (4 : Int32))])) _
    refine st1 _ ?_
    show Steps p.tables e below (T1.setTop (mkF m 3 #[.val (.long q0_0), .second, .val (.long q0_1), .second, .val (.long q0_2), .second, .val (.long q0_3), .second, .unset, .unset, .unset, .unset, .unset, .unset] [(.ref b1)])) _
    refine XS.astore X1.here hx rfl (hb hby at_3) rfl rfl (l' := #[.val (.long q0_0), .second, .val (.long q0_1), .second, .val (.long q0_2), .second, .val (.long q0_3), .second, rv b1, .unset, .unset, .unset, .unset, .unset]) rfl ?_
    show Steps p.tables e below (T1.setTop (mkF m 5 #[.val (.long q0_0), .second, .val (.long q0_1), .second, .val (.long q0_2), .second, .val (.long q0_3), .second, rv b1, .unset, .unset, .unset, .unset, .unset] [])) _
    refine XS.aload X1.here hx rfl (hb hby at_5) rfl rfl ?_
    show Steps p.tables e below (T1.setTop (mkF m 7 #[.val (.long q0_0), .second, .val (.long q0_1), .second, .val (.long q0_2), .second, .val (.long q0_3), .second, rv b1, .unset, .unset, .unset, .unset, .unset] [(.ref b1)])) _
    refine XS.iconst X1.here hx rfl (hb hby at_7) ?_
    show Steps p.tables e below (T1.setTop (mkF m 8 #[.val (.long q0_0), .second, .val (.long q0_1), .second, .val (.long q0_2), .second, .val (.long q0_3), .second, rv b1, .unset, .unset, .unset, .unset, .unset] [(.int (0 : Int32)), (.ref b1)])) _
    refine XS.lloadN X1.here hx rfl (hb hby at_8) rfl ?_
    show Steps p.tables e below (T1.setTop (mkF m 9 #[.val (.long q0_0), .second, .val (.long q0_1), .second, .val (.long q0_2), .second, .val (.long q0_3), .second, rv b1, .unset, .unset, .unset, .unset, .unset] [(.long q0_0), (.int (0 : Int32)), (.ref b1)])) _
    refine st8 _ ?_
    show Steps p.tables e below (T8.setTop (mkF m 10 #[.val (.long q0_0), .second, .val (.long q0_1), .second, .val (.long q0_2), .second, .val (.long q0_3), .second, rv b1, .unset, .unset, .unset, .unset, .unset] [])) _
    refine XS.aload X8.here hx rfl (hb hby at_10) rfl rfl ?_
    show Steps p.tables e below (T8.setTop (mkF m 12 #[.val (.long q0_0), .second, .val (.long q0_1), .second, .val (.long q0_2), .second, .val (.long q0_3), .second, rv b1, .unset, .unset, .unset, .unset, .unset] [(.ref b1)])) _
    refine XS.iconst X8.here hx rfl (hb hby at_12) ?_
    show Steps p.tables e below (T8.setTop (mkF m 13 #[.val (.long q0_0), .second, .val (.long q0_1), .second, .val (.long q0_2), .second, .val (.long q0_3), .second, rv b1, .unset, .unset, .unset, .unset, .unset] [(.int (1 : Int32)), (.ref b1)])) _
    refine XS.lloadN X8.here hx rfl (hb hby at_13) rfl ?_
    show Steps p.tables e below (T8.setTop (mkF m 14 #[.val (.long q0_0), .second, .val (.long q0_1), .second, .val (.long q0_2), .second, .val (.long q0_3), .second, rv b1, .unset, .unset, .unset, .unset, .unset] [(.long q0_1), (.int (1 : Int32)), (.ref b1)])) _
    refine st14 _ ?_
    show Steps p.tables e below (T14.setTop (mkF m 15 #[.val (.long q0_0), .second, .val (.long q0_1), .second, .val (.long q0_2), .second, .val (.long q0_3), .second, rv b1, .unset, .unset, .unset, .unset, .unset] [])) _
    refine XS.aload X14.here hx rfl (hb hby at_15) rfl rfl ?_
    show Steps p.tables e below (T14.setTop (mkF m 17 #[.val (.long q0_0), .second, .val (.long q0_1), .second, .val (.long q0_2), .second, .val (.long q0_3), .second, rv b1, .unset, .unset, .unset, .unset, .unset] [(.ref b1)])) _
    refine XS.iconst X14.here hx rfl (hb hby at_17) ?_
    show Steps p.tables e below (T14.setTop (mkF m 18 #[.val (.long q0_0), .second, .val (.long q0_1), .second, .val (.long q0_2), .second, .val (.long q0_3), .second, rv b1, .unset, .unset, .unset, .unset, .unset] [(.int (2 : Int32)), (.ref b1)])) _
    refine XS.lload X14.here hx rfl (hb hby at_18) rfl ?_
    show Steps p.tables e below (T14.setTop (mkF m 20 #[.val (.long q0_0), .second, .val (.long q0_1), .second, .val (.long q0_2), .second, .val (.long q0_3), .second, rv b1, .unset, .unset, .unset, .unset, .unset] [(.long q0_2), (.int (2 : Int32)), (.ref b1)])) _
    refine st20 _ ?_
    show Steps p.tables e below (T20.setTop (mkF m 21 #[.val (.long q0_0), .second, .val (.long q0_1), .second, .val (.long q0_2), .second, .val (.long q0_3), .second, rv b1, .unset, .unset, .unset, .unset, .unset] [])) _
    refine XS.aload X20.here hx rfl (hb hby at_21) rfl rfl ?_
    show Steps p.tables e below (T20.setTop (mkF m 23 #[.val (.long q0_0), .second, .val (.long q0_1), .second, .val (.long q0_2), .second, .val (.long q0_3), .second, rv b1, .unset, .unset, .unset, .unset, .unset] [(.ref b1)])) _
    refine XS.iconst X20.here hx rfl (hb hby at_23) ?_
    show Steps p.tables e below (T20.setTop (mkF m 24 #[.val (.long q0_0), .second, .val (.long q0_1), .second, .val (.long q0_2), .second, .val (.long q0_3), .second, rv b1, .unset, .unset, .unset, .unset, .unset] [(.int (3 : Int32)), (.ref b1)])) _
    refine XS.lload X20.here hx rfl (hb hby at_24) rfl ?_
    show Steps p.tables e below (T20.setTop (mkF m 26 #[.val (.long q0_0), .second, .val (.long q0_1), .second, .val (.long q0_2), .second, .val (.long q0_3), .second, rv b1, .unset, .unset, .unset, .unset, .unset] [(.long q0_3), (.int (3 : Int32)), (.ref b1)])) _
    refine st26 _ ?_
    show Steps p.tables e below (T26.setTop (mkF m 27 #[.val (.long q0_0), .second, .val (.long q0_1), .second, .val (.long q0_2), .second, .val (.long q0_3), .second, rv b1, .unset, .unset, .unset, .unset, .unset] [])) _
    refine XS.aload X26.here hx rfl (hb hby at_27) rfl rfl ?_
    show Steps p.tables e below (T26.setTop (mkF m 29 #[.val (.long q0_0), .second, .val (.long q0_1), .second, .val (.long q0_2), .second, .val (.long q0_3), .second, rv b1, .unset, .unset, .unset, .unset, .unset] [(.ref b1)])) _
    refine st31 _ ?_
    show Steps p.tables e below (T31.setTop (mkF m 32 #[.val (.long q0_0), .second, .val (.long q0_1), .second, .val (.long q0_2), .second, .val (.long q0_3), .second, rv b1, .unset, .unset, .unset, .unset, .unset] [(.long (q0_0 + q0_1))])) _
    refine XS.lstore X31.here hx rfl (hb hby at_32) rfl (l' := #[.val (.long q0_0), .second, .val (.long q0_1), .second, .val (.long q0_2), .second, .val (.long q0_3), .second, rv b1, .val (.long (q0_0 + q0_1)), .second, .unset, .unset, .unset]) rfl ?_
    show Steps p.tables e below (T31.setTop (mkF m 34 #[.val (.long q0_0), .second, .val (.long q0_1), .second, .val (.long q0_2), .second, .val (.long q0_3), .second, rv b1, .val (.long (q0_0 + q0_1)), .second, .unset, .unset, .unset] [])) _
    refine XS.lloadN X31.here hx rfl (hb hby at_34) rfl ?_
    show Steps p.tables e below (T31.setTop (mkF m 35 #[.val (.long q0_0), .second, .val (.long q0_1), .second, .val (.long q0_2), .second, .val (.long q0_3), .second, rv b1, .val (.long (q0_0 + q0_1)), .second, .unset, .unset, .unset] [(.long q0_0)])) _
    refine XS.lloadN X31.here hx rfl (hb hby at_35) rfl ?_
    show Steps p.tables e below (T31.setTop (mkF m 36 #[.val (.long q0_0), .second, .val (.long q0_1), .second, .val (.long q0_2), .second, .val (.long q0_3), .second, rv b1, .val (.long (q0_0 + q0_1)), .second, .unset, .unset, .unset] [(.long q0_1), (.long q0_0)])) _
    refine XS.ladd X31.here hx rfl (hb hby at_36) rfl ?_
    show Steps p.tables e below (T31.setTop (mkF m 37 #[.val (.long q0_0), .second, .val (.long q0_1), .second, .val (.long q0_2), .second, .val (.long q0_3), .second, rv b1, .val (.long (q0_0 + q0_1)), .second, .unset, .unset, .unset] [(.long (q0_0 + q0_1))])) _
    refine XS.lstore X31.here hx rfl (hb hby at_37) rfl (l' := #[.val (.long q0_0), .second, .val (.long q0_1), .second, .val (.long q0_2), .second, .val (.long q0_3), .second, rv b1, .val (.long (q0_0 + q0_1)), .second, .val (.long (q0_0 + q0_1)), .second, .unset]) rfl ?_
    show Steps p.tables e below (T31.setTop (mkF m 39 #[.val (.long q0_0), .second, .val (.long q0_1), .second, .val (.long q0_2), .second, .val (.long q0_3), .second, rv b1, .val (.long (q0_0 + q0_1)), .second, .val (.long (q0_0 + q0_1)), .second, .unset] [])) _
    refine XS.aload X31.here hx rfl (hb hby at_39) rfl rfl ?_
    show Steps p.tables e below (T31.setTop (mkF m 41 #[.val (.long q0_0), .second, .val (.long q0_1), .second, .val (.long q0_2), .second, .val (.long q0_3), .second, rv b1, .val (.long (q0_0 + q0_1)), .second, .val (.long (q0_0 + q0_1)), .second, .unset] [(.ref b1)])) _
    refine XS.iconst X31.here hx rfl (hb hby at_41) ?_
    show Steps p.tables e below (T31.setTop (mkF m 42 #[.val (.long q0_0), .second, .val (.long q0_1), .second, .val (.long q0_2), .second, .val (.long q0_3), .second, rv b1, .val (.long (q0_0 + q0_1)), .second, .val (.long (q0_0 + q0_1)), .second, .unset] [(.int (0 : Int32)), (.ref b1)])) _
    refine X31.laload hx (j := (0 : Int32)) (v := (.long q0_0)) (by rw [K31q]; exact Ar34.1) (State.isArrayOf_alike hZ.alike Ar34.2.1) Ar34.2.2 hin35 hat36 (g := (mkF m 42 #[.val (.long q0_0), .second, .val (.long q0_1), .second, .val (.long q0_2), .second, .val (.long q0_3), .second, rv b1, .val (.long (q0_0 + q0_1)), .second, .val (.long (q0_0 + q0_1)), .second, .unset] [(.int (0 : Int32)), (.ref b1)])) rfl rfl (hb hby at_42) _ ?_
    show Steps p.tables e below (T31.setTop (mkF m 43 #[.val (.long q0_0), .second, .val (.long q0_1), .second, .val (.long q0_2), .second, .val (.long q0_3), .second, rv b1, .val (.long (q0_0 + q0_1)), .second, .val (.long (q0_0 + q0_1)), .second, .unset] [(.long q0_0)])) _
    refine XS.lloadN X31.here hx rfl (hb hby at_43) rfl ?_
    show Steps p.tables e below (T31.setTop (mkF m 44 #[.val (.long q0_0), .second, .val (.long q0_1), .second, .val (.long q0_2), .second, .val (.long q0_3), .second, rv b1, .val (.long (q0_0 + q0_1)), .second, .val (.long (q0_0 + q0_1)), .second, .unset] [(.long q0_0), (.long q0_0)])) _
    refine XS.lcmp X31.here hx rfl (hb hby at_44) rfl ?_
    show Steps p.tables e below (T31.setTop (mkF m 45 #[.val (.long q0_0), .second, .val (.long q0_1), .second, .val (.long q0_2), .second, .val (.long q0_3), .second, rv b1, .val (.long (q0_0 + q0_1)), .second, .val (.long (q0_0 + q0_1)), .second, .unset] [(.int (lcmpW q0_0 q0_0))])) _
    refine XS.ifNo X31.here hx rfl (hb hby at_45) rfl ((if0 _ _).trans (teq hc37).2) ?_
    show Steps p.tables e below (T31.setTop (mkF m 48 #[.val (.long q0_0), .second, .val (.long q0_1), .second, .val (.long q0_2), .second, .val (.long q0_3), .second, rv b1, .val (.long (q0_0 + q0_1)), .second, .val (.long (q0_0 + q0_1)), .second, .unset] [])) _
    refine XS.aload X31.here hx rfl (hb hby at_48) rfl rfl ?_
    show Steps p.tables e below (T31.setTop (mkF m 50 #[.val (.long q0_0), .second, .val (.long q0_1), .second, .val (.long q0_2), .second, .val (.long q0_3), .second, rv b1, .val (.long (q0_0 + q0_1)), .second, .val (.long (q0_0 + q0_1)), .second, .unset] [(.ref b1)])) _
    refine XS.iconst X31.here hx rfl (hb hby at_50) ?_
    show Steps p.tables e below (T31.setTop (mkF m 51 #[.val (.long q0_0), .second, .val (.long q0_1), .second, .val (.long q0_2), .second, .val (.long q0_3), .second, rv b1, .val (.long (q0_0 + q0_1)), .second, .val (.long (q0_0 + q0_1)), .second, .unset] [(.int (1 : Int32)), (.ref b1)])) _
    refine X31.laload hx (j := (1 : Int32)) (v := (.long q0_1)) (by rw [K31q]; exact Ar38.1) (State.isArrayOf_alike hZ.alike Ar38.2.1) Ar38.2.2 hin39 hat40 (g := (mkF m 51 #[.val (.long q0_0), .second, .val (.long q0_1), .second, .val (.long q0_2), .second, .val (.long q0_3), .second, rv b1, .val (.long (q0_0 + q0_1)), .second, .val (.long (q0_0 + q0_1)), .second, .unset] [(.int (1 : Int32)), (.ref b1)])) rfl rfl (hb hby at_51) _ ?_
    show Steps p.tables e below (T31.setTop (mkF m 52 #[.val (.long q0_0), .second, .val (.long q0_1), .second, .val (.long q0_2), .second, .val (.long q0_3), .second, rv b1, .val (.long (q0_0 + q0_1)), .second, .val (.long (q0_0 + q0_1)), .second, .unset] [(.long q0_1)])) _
    refine XS.lloadN X31.here hx rfl (hb hby at_52) rfl ?_
    show Steps p.tables e below (T31.setTop (mkF m 53 #[.val (.long q0_0), .second, .val (.long q0_1), .second, .val (.long q0_2), .second, .val (.long q0_3), .second, rv b1, .val (.long (q0_0 + q0_1)), .second, .val (.long (q0_0 + q0_1)), .second, .unset] [(.long q0_1), (.long q0_1)])) _
    refine XS.lcmp X31.here hx rfl (hb hby at_53) rfl ?_
    show Steps p.tables e below (T31.setTop (mkF m 54 #[.val (.long q0_0), .second, .val (.long q0_1), .second, .val (.long q0_2), .second, .val (.long q0_3), .second, rv b1, .val (.long (q0_0 + q0_1)), .second, .val (.long (q0_0 + q0_1)), .second, .unset] [(.int (lcmpW q0_1 q0_1))])) _
    refine XS.ifNo X31.here hx rfl (hb hby at_54) rfl ((if0 _ _).trans (teq hc41).2) ?_
    show Steps p.tables e below (T31.setTop (mkF m 57 #[.val (.long q0_0), .second, .val (.long q0_1), .second, .val (.long q0_2), .second, .val (.long q0_3), .second, rv b1, .val (.long (q0_0 + q0_1)), .second, .val (.long (q0_0 + q0_1)), .second, .unset] [])) _
    refine XS.aload X31.here hx rfl (hb hby at_57) rfl rfl ?_
    show Steps p.tables e below (T31.setTop (mkF m 59 #[.val (.long q0_0), .second, .val (.long q0_1), .second, .val (.long q0_2), .second, .val (.long q0_3), .second, rv b1, .val (.long (q0_0 + q0_1)), .second, .val (.long (q0_0 + q0_1)), .second, .unset] [(.ref b1)])) _
    refine XS.iconst X31.here hx rfl (hb hby at_59) ?_
    show Steps p.tables e below (T31.setTop (mkF m 60 #[.val (.long q0_0), .second, .val (.long q0_1), .second, .val (.long q0_2), .second, .val (.long q0_3), .second, rv b1, .val (.long (q0_0 + q0_1)), .second, .val (.long (q0_0 + q0_1)), .second, .unset] [(.int (2 : Int32)), (.ref b1)])) _
    refine X31.laload hx (j := (2 : Int32)) (v := (.long q0_2)) (by rw [K31q]; exact Ar42.1) (State.isArrayOf_alike hZ.alike Ar42.2.1) Ar42.2.2 hin43 hat44 (g := (mkF m 60 #[.val (.long q0_0), .second, .val (.long q0_1), .second, .val (.long q0_2), .second, .val (.long q0_3), .second, rv b1, .val (.long (q0_0 + q0_1)), .second, .val (.long (q0_0 + q0_1)), .second, .unset] [(.int (2 : Int32)), (.ref b1)])) rfl rfl (hb hby at_60) _ ?_
    show Steps p.tables e below (T31.setTop (mkF m 61 #[.val (.long q0_0), .second, .val (.long q0_1), .second, .val (.long q0_2), .second, .val (.long q0_3), .second, rv b1, .val (.long (q0_0 + q0_1)), .second, .val (.long (q0_0 + q0_1)), .second, .unset] [(.long q0_2)])) _
    refine XS.lload X31.here hx rfl (hb hby at_61) rfl ?_
    show Steps p.tables e below (T31.setTop (mkF m 63 #[.val (.long q0_0), .second, .val (.long q0_1), .second, .val (.long q0_2), .second, .val (.long q0_3), .second, rv b1, .val (.long (q0_0 + q0_1)), .second, .val (.long (q0_0 + q0_1)), .second, .unset] [(.long q0_2), (.long q0_2)])) _
    refine XS.lcmp X31.here hx rfl (hb hby at_63) rfl ?_
    show Steps p.tables e below (T31.setTop (mkF m 64 #[.val (.long q0_0), .second, .val (.long q0_1), .second, .val (.long q0_2), .second, .val (.long q0_3), .second, rv b1, .val (.long (q0_0 + q0_1)), .second, .val (.long (q0_0 + q0_1)), .second, .unset] [(.int (lcmpW q0_2 q0_2))])) _
    refine XS.ifNo X31.here hx rfl (hb hby at_64) rfl ((if0 _ _).trans (teq hc45).2) ?_
    show Steps p.tables e below (T31.setTop (mkF m 67 #[.val (.long q0_0), .second, .val (.long q0_1), .second, .val (.long q0_2), .second, .val (.long q0_3), .second, rv b1, .val (.long (q0_0 + q0_1)), .second, .val (.long (q0_0 + q0_1)), .second, .unset] [])) _
    refine XS.aload X31.here hx rfl (hb hby at_67) rfl rfl ?_
    show Steps p.tables e below (T31.setTop (mkF m 69 #[.val (.long q0_0), .second, .val (.long q0_1), .second, .val (.long q0_2), .second, .val (.long q0_3), .second, rv b1, .val (.long (q0_0 + q0_1)), .second, .val (.long (q0_0 + q0_1)), .second, .unset] [(.ref b1)])) _
    refine XS.iconst X31.here hx rfl (hb hby at_69) ?_
    show Steps p.tables e below (T31.setTop (mkF m 70 #[.val (.long q0_0), .second, .val (.long q0_1), .second, .val (.long q0_2), .second, .val (.long q0_3), .second, rv b1, .val (.long (q0_0 + q0_1)), .second, .val (.long (q0_0 + q0_1)), .second, .unset] [(.int (3 : Int32)), (.ref b1)])) _
    refine X31.laload hx (j := (3 : Int32)) (v := (.long q0_3)) (by rw [K31q]; exact Ar46.1) (State.isArrayOf_alike hZ.alike Ar46.2.1) Ar46.2.2 hin47 hat48 (g := (mkF m 70 #[.val (.long q0_0), .second, .val (.long q0_1), .second, .val (.long q0_2), .second, .val (.long q0_3), .second, rv b1, .val (.long (q0_0 + q0_1)), .second, .val (.long (q0_0 + q0_1)), .second, .unset] [(.int (3 : Int32)), (.ref b1)])) rfl rfl (hb hby at_70) _ ?_
    show Steps p.tables e below (T31.setTop (mkF m 71 #[.val (.long q0_0), .second, .val (.long q0_1), .second, .val (.long q0_2), .second, .val (.long q0_3), .second, rv b1, .val (.long (q0_0 + q0_1)), .second, .val (.long (q0_0 + q0_1)), .second, .unset] [(.long q0_3)])) _
    refine XS.lload X31.here hx rfl (hb hby at_71) rfl ?_
    show Steps p.tables e below (T31.setTop (mkF m 73 #[.val (.long q0_0), .second, .val (.long q0_1), .second, .val (.long q0_2), .second, .val (.long q0_3), .second, rv b1, .val (.long (q0_0 + q0_1)), .second, .val (.long (q0_0 + q0_1)), .second, .unset] [(.long q0_3), (.long q0_3)])) _
    refine XS.lcmp X31.here hx rfl (hb hby at_73) rfl ?_
    show Steps p.tables e below (T31.setTop (mkF m 74 #[.val (.long q0_0), .second, .val (.long q0_1), .second, .val (.long q0_2), .second, .val (.long q0_3), .second, rv b1, .val (.long (q0_0 + q0_1)), .second, .val (.long (q0_0 + q0_1)), .second, .unset] [(.int (lcmpW q0_3 q0_3))])) _
    refine XS.ifNo X31.here hx rfl (hb hby at_74) rfl ((if0 _ _).trans (teq hc49).2) ?_
    show Steps p.tables e below (T31.setTop (mkF m 77 #[.val (.long q0_0), .second, .val (.long q0_1), .second, .val (.long q0_2), .second, .val (.long q0_3), .second, rv b1, .val (.long (q0_0 + q0_1)), .second, .val (.long (q0_0 + q0_1)), .second, .unset] [])) _
    refine XS.iconst X31.here hx rfl (hb hby at_77) ?_
    show Steps p.tables e below (T31.setTop (mkF m 78 #[.val (.long q0_0), .second, .val (.long q0_1), .second, .val (.long q0_2), .second, .val (.long q0_3), .second, rv b1, .val (.long (q0_0 + q0_1)), .second, .val (.long (q0_0 + q0_1)), .second, .unset] [(.int (1 : Int32))])) _
    refine XS.goto X31.here hx rfl (pc0 := 78) (pc' := 82) rfl (hb hby at_78) (by decide) (by decide) ?_
    show Steps p.tables e below (T31.setTop (mkF m 82 #[.val (.long q0_0), .second, .val (.long q0_1), .second, .val (.long q0_2), .second, .val (.long q0_3), .second, rv b1, .val (.long (q0_0 + q0_1)), .second, .val (.long (q0_0 + q0_1)), .second, .unset] [(.int (1 : Int32))])) _
    refine XS.istore X31.here hx rfl (hb hby at_82) rfl (l' := #[.val (.long q0_0), .second, .val (.long q0_1), .second, .val (.long q0_2), .second, .val (.long q0_3), .second, rv b1, .val (.long (q0_0 + q0_1)), .second, .val (.long (q0_0 + q0_1)), .second, iv (1 : Int32)]) rfl ?_
    show Steps p.tables e below (T31.setTop (mkF m 84 #[.val (.long q0_0), .second, .val (.long q0_1), .second, .val (.long q0_2), .second, .val (.long q0_3), .second, rv b1, .val (.long (q0_0 + q0_1)), .second, .val (.long (q0_0 + q0_1)), .second, iv (1 : Int32)] [])) _
    refine XS.lload X31.here hx rfl (hb hby at_84) rfl ?_
    show Steps p.tables e below (T31.setTop (mkF m 86 #[.val (.long q0_0), .second, .val (.long q0_1), .second, .val (.long q0_2), .second, .val (.long q0_3), .second, rv b1, .val (.long (q0_0 + q0_1)), .second, .val (.long (q0_0 + q0_1)), .second, iv (1 : Int32)] [(.long (q0_0 + q0_1))])) _
    refine XS.lload X31.here hx rfl (hb hby at_86) rfl ?_
    show Steps p.tables e below (T31.setTop (mkF m 88 #[.val (.long q0_0), .second, .val (.long q0_1), .second, .val (.long q0_2), .second, .val (.long q0_3), .second, rv b1, .val (.long (q0_0 + q0_1)), .second, .val (.long (q0_0 + q0_1)), .second, iv (1 : Int32)] [(.long (q0_0 + q0_1)), (.long (q0_0 + q0_1))])) _
    refine XS.lcmp X31.here hx rfl (hb hby at_88) rfl ?_
    show Steps p.tables e below (T31.setTop (mkF m 89 #[.val (.long q0_0), .second, .val (.long q0_1), .second, .val (.long q0_2), .second, .val (.long q0_3), .second, rv b1, .val (.long (q0_0 + q0_1)), .second, .val (.long (q0_0 + q0_1)), .second, iv (1 : Int32)] [(.int (lcmpW (q0_0 + q0_1) (q0_0 + q0_1)))])) _
    refine XS.ifNo X31.here hx rfl (hb hby at_89) rfl ((if0 _ _).trans (teq hc50).2) ?_
    show Steps p.tables e below (T31.setTop (mkF m 92 #[.val (.long q0_0), .second, .val (.long q0_1), .second, .val (.long q0_2), .second, .val (.long q0_3), .second, rv b1, .val (.long (q0_0 + q0_1)), .second, .val (.long (q0_0 + q0_1)), .second, iv (1 : Int32)] [])) _
    refine XS.iload X31.here hx rfl (hb hby at_92) rfl ?_
    show Steps p.tables e below (T31.setTop (mkF m 94 #[.val (.long q0_0), .second, .val (.long q0_1), .second, .val (.long q0_2), .second, .val (.long q0_3), .second, rv b1, .val (.long (q0_0 + q0_1)), .second, .val (.long (q0_0 + q0_1)), .second, iv (1 : Int32)] [(.int (1 : Int32))])) _
    refine XS.ifNo X31.here hx rfl (hb hby at_94) rfl ((if0 _ _).trans (feq (by decide : ¬ ((1 : Int32) = (0 : Int32)))).1) ?_
    show Steps p.tables e below (T31.setTop (mkF m 97 #[.val (.long q0_0), .second, .val (.long q0_1), .second, .val (.long q0_2), .second, .val (.long q0_3), .second, rv b1, .val (.long (q0_0 + q0_1)), .second, .val (.long (q0_0 + q0_1)), .second, iv (1 : Int32)] [])) _
    refine XS.iconst X31.here hx rfl (hb hby at_97) ?_
    show Steps p.tables e below (T31.setTop (mkF m 98 #[.val (.long q0_0), .second, .val (.long q0_1), .second, .val (.long q0_2), .second, .val (.long q0_3), .second, rv b1, .val (.long (q0_0 + q0_1)), .second, .val (.long (q0_0 + q0_1)), .second, iv (1 : Int32)] [(.int (1 : Int32))])) _
    refine XS.goto X31.here hx rfl (pc0 := 98) (pc' := 102) rfl (hb hby at_98) (by decide) (by decide) ?_
    show Steps p.tables e below (T31.setTop (mkF m 102 #[.val (.long q0_0), .second, .val (.long q0_1), .second, .val (.long q0_2), .second, .val (.long q0_3), .second, rv b1, .val (.long (q0_0 + q0_1)), .second, .val (.long (q0_0 + q0_1)), .second, iv (1 : Int32)] [(.int (1 : Int32))])) _
    exact retN X31 hx (t := .boolean) Bd.returns (by simp) (hb hby at_102) hr
  · show Q_rm0 Z _ _ _ _ h0 n0 _ T31.heap _
    rw [K31q]
    exact ⟨rfl, N33, (K27)⟩
set_option maxRecDepth 65536 in
set_option maxHeartbeats 40000000 in
theorem comes_1 {Post : Tables → Env → Array Value → State → Outcome → State → Prop} (hpost : ∀ tb e args s v u, (limb_1_1.after args s (.returned v) u = true ∧ limb_1_2.after args s (.returned v) u = true ∧ True) → FrameEnd s (.returned v) u (Jvm.fieldLocs frame_1_writes args s ++ Jvm.arrayLocs frame_1_arrays args s ++ Jvm.staticLocs frame_1_statics s) 16 128 → Post tb e args s (.returned v) u) :
    ArmFor flags0 classFile x code maxLocals ret World_1 tables_1 room_1 Calls_1 rest_1 Pre_1 Post := by
  intro l hfl _ _ p e ha hc hk s m args below hf hA hF happ hP
  obtain ⟨hcalls, hrest, hpre⟩ := hP
  obtain ⟨-, -, -, hnamed, -, -, -, hat⟩ := (Spec.applies_iff hf).mp happ
  obtain ⟨hg, hn⟩ := and_e (Cond.before_iff.mp (show (Jvm.Cond.and given_1 narrow_1).before args s = true from hpre))
  obtain ⟨g1, g2⟩ := and_e hg
  obtain ⟨g3, g4⟩ := and_e g2
  obtain ⟨g5, g6⟩ := and_e g4
  obtain ⟨g7, g8⟩ := and_e g6
  obtain ⟨w0, w1, w2, w3, rfl⟩ : ∃ w0 w1 w2 w3 : Value, args = #[w0, w1, w2, w3] := by
    have hs : args.size = 4 := by simpa [Cond.value, given_1] using g1
    obtain ⟨L⟩ := args
    match L, hs with
    | [w0, w1, w2, w3], _ => exact ⟨w0, w1, w2, w3, rfl⟩
  have hw := fun d (hd : d ∈ tables_1) => atoms_spec (ws := Jvm.Cond.code x code maxLocals ret :: tables_1) hat d (List.mem_cons_of_mem _ hd)
  have hfit : Fit s := fun {y c} hc i hi => by
    obtain ⟨ha, rfl⟩ := Array.getElem?_eq_some_iff.mp hc
    have q := List.all_eq_true.mp ((Array.all_eq_true_iff_forall_mem.mp hF) _ (Array.getElem_mem ha)) i (List.mem_range.mpr hi)
    simpa [Array.getElem?_eq_getElem hi] using q
  obtain ⟨i0, ei0⟩ := isL_v g3
  obtain rfl : w0 = (.long i0) := Option.some.inj ei0
  obtain ⟨i1, ei1⟩ := isL_v g5
  obtain rfl : w1 = (.long i1) := Option.some.inj ei1
  obtain ⟨i2, ei2⟩ := isL_v g7
  obtain rfl : w2 = (.long i2) := Option.some.inj ei2
  obtain ⟨i3, ei3⟩ := isL_v g8
  obtain rfl : w3 = (.long i3) := Option.some.inj ei3
  obtain ⟨hn1a, hn1b⟩ := and_e hn
  have S_NAMES : Sta s s.heap "com/example/iskati/iskati/rank/EntityText" "NAMES" "I" (.int (0 : Int32)) := Sta.start (own_eqv hn1a) (Or.inr ⟨(hw _ (List.mem_of_getElem? (i := 3) rfl)), (hw _ (List.mem_of_getElem? (i := 6) rfl))⟩)
  have S_ATTRIBUTES : Sta s s.heap "com/example/iskati/iskati/rank/EntityText" "ATTRIBUTES" "I" (.int (1 : Int32)) := Sta.start (own_eqv hn1b) (Or.inr ⟨(hw _ (List.mem_of_getElem? (i := 3) rfl)), (hw _ (List.mem_of_getElem? (i := 8) rfl))⟩)
  obtain ⟨n, o, h1, h2, h3, _, L, rfl, ⟨rfl, N, -⟩, hq⟩ := rm0 l s _ hw tables_1 i0 i1 i2 i3 s.heap s.heap.size (Nat.le_refl _) (Old.start s) S_NAMES S_ATTRIBUTES p e ha hc hk s m _ below hf ((Spec.applies_iff_loose hf).mp happ).1 ⟨rfl, State.Warmed39.refl s, rfl⟩ trivial
  refine ⟨n, _, h1, h2, h3, hpost _ _ _ _ _ _ ⟨Cond.after_iff.mpr rfl, Cond.after_iff.mpr (eq_i res_at (Term.int_eval (1)) rfl), trivial⟩ ⟨hq.1, hq.2.1, (hq.2.2.sift fun y hy => Or.inr (N y hy)).mono (by decide) (by decide)⟩⟩
theorem main_1_1 : Claimed_1_1 := comes_1 fun _ _ _ _ _ _ h hF => ⟨h.1, hF⟩
theorem main_1_2 : Claimed_1_2 := comes_1 fun _ _ _ _ _ _ h hF => ⟨h.2.1, hF⟩
end Jvm.Pilot.@@N@@
namespace Jvm.Pilot.@@N@@
open Jvm Jvm.ClassFile Sem Op Lib Jvm.Free Jvm.Stand Jvm.Pilot.@@N@@.Jvm.D
/-! MADE BY PROGRAM (witnessworld.py) out of the Statement's table words and the real class files: 11 classes; the members and pool entries that the words name. The judged class is class 1, her method 1. -/
namespace start1
open Jvm.ClassFile
def u (s : String) : CpInfo := .utf8 (stringToUtf16 s)
/-- a pool by its gaps: so many unusable entries, then the entry; so many at the end -/
def gap : Nat → List CpInfo → List CpInfo
  | 0, r => r
  | n + 1, r => .unusable :: gap n r
def poolList (es : List (Nat × CpInfo)) (last : Nat) : List CpInfo := es.foldr (fun e r => gap e.1 (e.2 :: r)) (gap last [])
def pool (es : List (Nat × CpInfo)) (last : Nat) : Array CpInfo := ⟨poolList es last⟩
def fileOf (pool : Array CpInfo) (this : Nat) (attrs : Array Attribute := #[]) (ms : Array MethodInfo := #[]) (fl : Nat := 33) (sup : Nat := 0) (ifs : Array Nat := #[]) (fds : Array FieldInfo := #[]) : ClassFile where
  minorVersion := 0
  majorVersion := 65
  constantPool := pool
  accessFlags := fl
  thisClass := this
  superClass := sup
  interfaces := ifs
  fields := fds
  methods := ms
  attributes := attrs
def plain (name : String) (sup : Option ClassId) : Class where
  name := name
  kind := .ordinary
  loader := none
  accessFlags := 33
  super := sup
  interfaces := #[]
  cf := none
  fields := #[]
  methods := #[]
  instanceTypes := #[]
  staticTypes := #[]
  resolved := #[]
  callSites := []
  init := .initialized
  statics := none
  mirror := none

def pool0 : Array CpInfo := pool [(5, u "<init>"), (0, u "()V"), (1, .class_ 10), (1, u "java/lang/Object")] 113

def k0m0 : Method := { name := "<init>", desc := "()V", sig := { parameters := [], returnType := none }, accessFlags := 1, code := none }
/-- java/lang/Object -/
def k0 : Class := { plain "java/lang/Object" none with
  accessFlags := 33
  interfaces := #[]
  cf := some (fileOf pool0 8 #[] #[{ accessFlags := 1, nameIndex := 5, descriptorIndex := 6, attributes := #[] }] 33 0 #[] #[])
  fields := #[]
  methods := #[k0m0]
  instanceTypes := #[]
  staticTypes := #[]
  resolved := Array.replicate 124 none
  statics := none }

def pool1 : Array CpInfo := pool [(2, .class_ 4), (1, u "java/lang/Object"), (0, u "<init>"), (0, u "()V"), (0, .methodref 8 9), (0, .class_ 10), (0, .nameAndType 11 12), (0, u "com/example/iskati/iskati/rank/EntityText"), (0, u "of"), (0, u "([J)J"), (0, .class_ 14), (0, u "com/example/iskati/iskati/rank/EntityTextOfPinLaw"), (2, u "law"), (0, u "(JJJJ)Z")] 5

def k1m0 : Method := { name := "<init>", desc := "()V", sig := { parameters := [], returnType := none }, accessFlags := 2, code := none }
def k1c1 : Code := { maxStack := 4, maxLocals := 14, code := code, exceptionTable := #[], attributes := #[] }
def k1m1 : Method := { name := "law", desc := "(JJJJ)Z", sig := { parameters := [.long, .long, .long, .long], returnType := some .boolean }, accessFlags := 9, code := some k1c1 }
/-- com/example/iskati/iskati/rank/EntityTextOfPinLaw -/
def k1 : Class := { plain "com/example/iskati/iskati/rank/EntityTextOfPinLaw" (some 0) with
  accessFlags := 49
  interfaces := #[]
  cf := some (fileOf pool1 13 #[] #[{ accessFlags := 2, nameIndex := 5, descriptorIndex := 6, attributes := #[] }, { accessFlags := 9, nameIndex := 17, descriptorIndex := 18, attributes := #[] }] 49 2 #[] #[])
  fields := #[]
  methods := #[k1m0, k1m1]
  instanceTypes := #[]
  staticTypes := #[]
  resolved := Array.replicate 24 none
  statics := none }

def pool2 : Array CpInfo := pool [(2, .class_ 4), (1, u "java/lang/Object"), (0, u "<init>"), (0, u "()V"), (0, .fieldref 8 9), (0, .class_ 10), (0, .nameAndType 11 12), (0, u "com/example/iskati/iskati/rank/EntityText"), (0, u "NAMES"), (0, u "I"), (0, .fieldref 8 14), (0, .nameAndType 15 12), (0, u "ATTRIBUTES"), (11, u "of"), (9, u "FIELDS"), (0, u "Ljava/util/Set;"), (8, u "([J)J")] 3

def k2m0 : Method := { name := "<init>", desc := "()V", sig := { parameters := [], returnType := none }, accessFlags := 2, code := none }
def k2c1 : Code := { maxStack := 4, maxLocals := 1, code := prog_19_method_2_code, exceptionTable := #[], attributes := #[] }
def k2m1 : Method := { name := "of", desc := "([J)J", sig := { parameters := [(.array .long)], returnType := some .long }, accessFlags := 8, code := some k2c1 }
/-- com/example/iskati/iskati/rank/EntityText -/
def k2 : Class := { plain "com/example/iskati/iskati/rank/EntityText" (some 0) with
  accessFlags := 48
  interfaces := #[]
  cf := some (fileOf pool2 8 #[] #[{ accessFlags := 2, nameIndex := 5, descriptorIndex := 6, attributes := #[] }, { accessFlags := 8, nameIndex := 27, descriptorIndex := 47, attributes := #[] }] 48 2 #[] #[{ accessFlags := 24, nameIndex := 37, descriptorIndex := 38, attributes := #[] }, { accessFlags := 26, nameIndex := 11, descriptorIndex := 12, attributes := #[] }, { accessFlags := 26, nameIndex := 15, descriptorIndex := 12, attributes := #[] }])
  fields := #[{ name := "FIELDS", type := (.object "java/util/Set"), accessFlags := 24, slot := 0, constantValue := 0 }, { name := "NAMES", type := .int, accessFlags := 26, slot := 1, constantValue := 0 }, { name := "ATTRIBUTES", type := .int, accessFlags := 26, slot := 2, constantValue := 0 }]
  methods := #[k2m0, k2m1]
  instanceTypes := #[]
  staticTypes := #[(.object "java/util/Set"), .int, .int]
  resolved := Array.replicate 51 none
  statics := some 0 }

def pool3 : Array CpInfo := pool [(1, u "java/lang/Cloneable"), (0, .class_ 1), (0, u "java/lang/Object"), (0, .class_ 3)] 3

/-- java/lang/Cloneable -/
def k3 : Class := { plain "java/lang/Cloneable" (some 0) with
  accessFlags := 1537
  interfaces := #[]
  cf := some (fileOf pool3 2 #[] #[] 1537 4 #[] #[])
  fields := #[]
  methods := #[]
  instanceTypes := #[]
  staticTypes := #[]
  resolved := Array.replicate 8 none
  statics := none }

def pool4 : Array CpInfo := pool [(1, u "java/io/Serializable"), (0, .class_ 1), (0, u "java/lang/Object"), (0, .class_ 3)] 3

/-- java/io/Serializable -/
def k4 : Class := { plain "java/io/Serializable" (some 0) with
  accessFlags := 1537
  interfaces := #[]
  cf := some (fileOf pool4 2 #[] #[] 1537 4 #[] #[])
  fields := #[]
  methods := #[]
  instanceTypes := #[]
  staticTypes := #[]
  resolved := Array.replicate 8 none
  statics := none }

/-- the primitive byte -/
def k5 : Class := { plain "byte" none with kind := .primitive 'B', accessFlags := 0x411 }
/-- [B -/
def k6 : Class := { plain "[B" (some 0) with kind := .array 5 .byte, interfaces := #[3, 4], accessFlags := 1041 }

/-- the primitive int -/
def k7 : Class := { plain "int" none with kind := .primitive 'I', accessFlags := 0x411 }
/-- [I -/
def k8 : Class := { plain "[I" (some 0) with kind := .array 7 .int, interfaces := #[3, 4], accessFlags := 1041 }

/-- the primitive long -/
def k9 : Class := { plain "long" none with kind := .primitive 'J', accessFlags := 0x411 }
/-- [J -/
def k10 : Class := { plain "[J" (some 0) with kind := .array 9 .long, interfaces := #[3, 4], accessFlags := 1041 }

def heap : Heap := #[{ cls := 2, slots := #[.null, .int 0, .int 1], vm := .statics 2 }]
def classes : Array Class := #[k0, k1, k2, k3, k4, k5, k6, k7, k8, k9, k10]
def interned : List (Array UInt16 × Addr) := []
def slotsUsed : Nat := 3
def theMethod : MethodId := ⟨1, 1⟩
def args0 : Array Value := #[.long 1, .long 2, .long 3, .long 4]
def aboutOver (below : List Frame) : State where
  vm := { classes := classes, interned := interned.toArray }
  heap := heap
  slotsUsed := slotsUsed
  threads := #[{ frames := .invoking theMethod args0 :: below }]
def below0 : List Frame := [.native { method := ⟨0, 0⟩, args := #[] }]
def about1 : State := aboutOver below0
def p0 : Program := .bare "" "" ""
def e0 : Env := launch0.env 0 0 0
theorem w_frames : about1.frames = Frame.invoking theMethod args0 :: below0 := rfl
set_option maxRecDepth 65536 in
theorem w_args : argsFit about1.vm theMethod args0 = true := by decide +kernel
set_option maxRecDepth 65536 in
theorem w_heap : heapFits about1 = true := by decide +kernel
set_option maxRecDepth 65536 in
theorem w_runnable : about1.curStatus? = some .runnable := by decide +kernel
set_option maxRecDepth 65536 in
theorem w_alone : about1.alone = true := by decide +kernel
set_option maxRecDepth 65536 in
theorem w_named : about1.methodNamed? x = some theMethod := by decide +kernel
set_option maxRecDepth 65536 in
theorem w_hears : about1.hears theMethod below0 = true := by decide +kernel
set_option maxRecDepth 65536 in
theorem w_ripe : about1.ripe theMethod args0 below0 = true := by decide +kernel
theorem w_running : about1.status = .running := rfl
set_option maxRecDepth 65536 in
theorem w_room : about1.hasRoom e0.platform room_1 = true :=
  launch0.hasRoom_least _ room_1 (by decide +kernel) (by decide +kernel) (by decide +kernel) (by decide +kernel) (by decide +kernel) (by decide +kernel)
theorem allAtoms_all (ts : List Jvm.Cond) (a : Array Jvm.Value) (st : Jvm.State) : (allAtoms ts).before a st = ts.all (fun c => c.before a st) := by
  induction ts with
  | nil => rfl
  | cons c t ih =>
    show (Jvm.Cond.and c (allAtoms t)).before a st = _
    rw [Jvm.Cond.before_and, ih, List.all_cons]
def words1 : List Jvm.Cond := Jvm.Cond.code x code maxLocals ret :: tables_1
/-- a 'code' word, met by the world's own term for the bytes: nothing is compared byte by byte -/
theorem code_word {y : MethodName} {bytes : ByteArray} {mx : Nat} {rt : Option FieldType} {a : Array Value} {s : State} {m : MethodId} {meth : Method} {c : Code} (h1 : s.methodNamed? y = some m) (h2 : s.vm.method? m = some meth) (h3 : meth.code = some c) (h4 : c.code = bytes)
    (h5 : (c.maxLocals == mx && c.exceptionTable.isEmpty && decide (c.maxStack ≤ mostOperands) && decide (meth.sig.returnType = rt) && !meth.locks && decide (parseMethodDescriptor y.desc = some meth.sig)) = true) : (Jvm.Cond.code y bytes mx rt).before a s = true := by
  simp only [Bool.and_eq_true, beq_iff_eq, Bool.not_eq_true', decide_eq_true_eq] at h5
  obtain ⟨⟨⟨⟨⟨g1, g2⟩, g3⟩, g4⟩, g5⟩, g6⟩ := h5
  simp [Cond.before, Cond.holds, Cond.value, h1, h2, h3, h4, g1, g2, g3, g4, g5, g6]
def isCode : Jvm.Cond → Bool
  | .code _ _ _ _ => true
  | _ => false
theorem all_split {L : List Jvm.Cond} {P : Jvm.Cond → Bool} (h1 : L.all (fun c => isCode c || P c) = true) (h2 : ∀ c ∈ L.filter isCode, P c = true) : L.all P = true := by
  refine List.all_eq_true.mpr fun c hc => ?_
  have h := List.all_eq_true.mp h1 c hc
  rcases Bool.eq_false_or_eq_true (isCode c) with hi | hi
  · exact h2 c (List.mem_filter.mpr ⟨hc, hi⟩)
  · simpa [hi] using h
set_option maxRecDepth 65536 in
theorem w_c0 : (Jvm.Cond.code x code maxLocals ret).before args0 about1 = true := code_word (m := ⟨1, 1⟩) (meth := k1m1) (c := k1c1) (by decide +kernel) rfl rfl rfl (by decide +kernel)
set_option maxRecDepth 65536 in
theorem w_c1 : (Jvm.Cond.code ({ cls := "com/example/iskati/iskati/rank/EntityText", name := "of", desc := "([J)J" } : Jvm.MethodName) prog_19_method_2_code (1 : Nat) (Option.some Jvm.ClassFile.FieldType.long)).before args0 about1 = true := code_word (m := ⟨2, 1⟩) (meth := k2m1) (c := k2c1) (by decide +kernel) rfl rfl rfl (by decide +kernel)
def codes1 : List Jvm.Cond := [Jvm.Cond.code x code maxLocals ret, Jvm.Cond.code ({ cls := "com/example/iskati/iskati/rank/EntityText", name := "of", desc := "([J)J" } : Jvm.MethodName) prog_19_method_2_code (1 : Nat) (Option.some Jvm.ClassFile.FieldType.long)]
set_option maxRecDepth 65536 in
theorem codes_eq : words1.filter isCode = codes1 := rfl
theorem w_codes : ∀ c ∈ words1.filter isCode, c.before args0 about1 = true := by
  rw [codes_eq]
  intro c hc
  simp only [codes1, List.mem_cons, List.not_mem_nil, or_false] at hc
  rcases hc with rfl | rfl
  · exact w_c0
  · exact w_c1
set_option maxRecDepth 65536 in
theorem w_t1 : words1.all (fun c => isCode c || c.before args0 about1) = true := by decide +kernel
theorem w_tables : (allAtoms (Jvm.Cond.code x code maxLocals ret :: tables_1)).before args0 about1 = true := by
  rw [allAtoms_all]
  show words1.all (fun c => c.before args0 about1) = true
  refine all_split ?_ w_codes
  rw [w_t1]
set_option maxRecDepth 65536 in
theorem w_case : (Jvm.Cond.and given_1 narrow_1).before args0 about1 = true := by decide +kernel
theorem w_applies : (headSpec (Jvm.Cond.code x code maxLocals ret :: tables_1) room_1).applies x e0.platform about1 = true :=
  (Spec.applies_iff w_frames).mpr ⟨w_running, w_runnable, w_alone, w_named, w_hears, w_ripe, w_room, w_tables⟩
theorem atStart : AtStart classFile x code maxLocals ret World_1 tables_1 room_1 Calls_1 rest_1 Pre_1 launch0 p0 e0 about1 theMethod args0 below0 :=
  ⟨lists_1, trivial, launch0.admits_env _ _ _, launch0.least_env, fairChoices_fair.cas, fairChoices_fair.clock, w_frames, w_args, w_heap, w_applies, trivial, trivial, w_case⟩
end start1
theorem witness_1 : WitnessClaimed_1 := ⟨start1.p0, start1.e0, start1.about1, start1.theMethod, start1.args0, start1.below0, start1.atStart⟩
end Jvm.Pilot.@@N@@
