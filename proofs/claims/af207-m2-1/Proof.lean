import JvmDerived
import JvmDerived.Pilot.@@N@@Statement
import JvmDerived.Pilot.@@N@@Code
set_option linter.unusedVariables false
set_option linter.unusedSimpArgs false
namespace Jvm.RoadKit
open Sem ClassFile Op Lib Jvm.Stand Jvm.Free Jvm.LawKit
section New
variable {p : Program} {l : Launch} {e : Env} {R : Room} {s : State} {m : MethodId} {args : Array Value} {below : List Frame} {meth : Method} {c : Code} {T : State} {locs : List Loc} {cells slots : Nat}
theorem retI (X : Stand p l e R s m args below meth c T locs cells slots) (hx : p.tables.exec = Jvm.exec) {pc : Nat} {Ls : Array Slot} {z : Int32} {rest : List Value} (hret : meth.sig.returnType = some .int) (hd : decode c.code pc = .ok (.ireturn, 1)) {fs : List Frame}
    (hl : ∀ (f : JFrame) (acts : List Action), f.method = m → f.locked = none → f.entered = [] → (doReturn e (T.setTop f) acts (some (.int z))).1 = T.setFrames fs) : Steps p.tables e below (T.setTop (mkF m pc Ls (.int z :: rest))) (T.setFrames fs) := by
  have hm' : T.vm.method? m = some meth := X.method'
  have hn : narrow .int (.int z) = .int z := rfl
  show Steps p.tables e below (T.setTop { method := m, pc := pc, locals := Ls, stack := _ :: rest, locked := none }) _
  jvm_step X.here [X.here.top, hx, hd, hm', hret, hn]
  first | (intro acts; rw [hl _ acts rfl rfl rfl]) | rw [hl _ _ rfl rfl rfl]
  exact Steps.refl _
end New
end Jvm.RoadKit
/- laws to paste: Road.backV, Road.lenW, Road.chN, Road.empW (cut by pick.py; bodies as the Statement names them) -/
namespace Jvm.Pilot.@@N@@
namespace StrChars
open Jvm Sem ClassFile Op Lib Jvm.Stand Jvm.Free.XT Jvm.Free.ALB Jvm.Free.JM Jvm.Free
open Jvm.Lib.Cold (StaticIs)
/-- a char array whose places are chars -/
def Ch (a : Addr) (A : Cell) (U : State) : Prop := Arr .char a A U ∧ Typed .char A
theorem Ch.mv {a : Addr} {A : Cell} {U U' : State} (h : Ch a A U) (hal : U.vm.Alike U'.vm) (hh : U'.heap = U.heap) : Ch a A U' := ⟨h.1.mv hal hh, h.2⟩
theorem Ch.keep {a : Addr} {A : Cell} {U U' : State} (h : Ch a A U) (hal : U.vm.Alike U'.vm) (hk : U'.heap[a]? = some A) : Ch a A U' := ⟨h.1.keep hal hk, h.2⟩
/-- what place i of a char[]'s cell holds -/
def cv (A : Cell) (i : Nat) : Int32 := match A.slots[i]? with | some (.int x) => x | _ => 0
theorem Ch.get {a : Addr} {A : Cell} {U : State} (h : Ch a A U) {i : Nat} (hi : i < A.slots.size) : A.slots[i]? = some (.int (cv A i)) := by
  have e := Array.getElem?_eq_getElem hi
  have f := h.2 i _ e
  unfold cv; rw [e]
  generalize A.slots[i] = v at f
  cases v <;> simp [fits] at f ⊢
/-- the byte that i2b leaves of a char -/
def lo8 (x : Int32) : Int32 := x.toInt8.toInt32
theorem fits_lo8 (y : Int32) : fits .byte (.int (lo8 y)) = true := by
  have h1 := y.toInt8.le_toInt
  have h2 := y.toInt8.toInt_lt
  simp only [lo8, fits, Bool.and_eq_true, decide_eq_true_eq, Int32.le_iff_toInt_le, Int8.toInt_toInt32, show (-128 : Int32).toInt = -128 from by decide, show (127 : Int32).toInt = 127 from by decide]
  omega
/-- A' is A but that each place j of lo .. hi - 1 holds f j -/
def Laid (A A' : Cell) (lo hi : Nat) (f : Nat → Value) : Prop := A'.cls = A.cls ∧ A'.vm = A.vm ∧ A'.slots.size = A.slots.size ∧ ∀ i, A'.slots[i]? = if lo ≤ i ∧ i < hi then some (f i) else A.slots[i]?
theorem Laid.zero (A : Cell) (lo : Nat) (f : Nat → Value) : Laid A A lo (lo + 0) f := ⟨rfl, rfl, rfl, fun i => by rw [if_neg (by omega)]⟩
theorem Laid.step {A Ak : Cell} {lo k : Nat} {f : Nat → Value} {v : Value} (h : Laid A Ak lo k f) (hlo : lo ≤ k) (hk : k < Ak.slots.size) (hv : v = f k) : Laid A (Ak.setSlot k v) lo (k + 1) f := by
  refine ⟨h.1, h.2.1, by simpa [Cell.setSlot] using h.2.2.1, fun i => ?_⟩
  by_cases e : k = i
  · subst e; rw [Cell.slots_setSlot_self v hk, if_pos (by omega), hv]
  · rw [Cell.slots_setSlot_ne v e, h.2.2.2 i]
    by_cases q : lo ≤ i ∧ i < k
    · rw [if_pos q, if_pos (by omega)]
    · rw [if_neg q, if_neg (by omega)]
def U16 : String := "java/lang/StringUTF16"
namespace Cmp5
def yN : MethodName := ⟨"java/lang/StringUTF16", "compress", "([CI[BII)I"⟩
abbrev yB : ByteArray := jdk_52_method_21_code
theorem d0 : decode yB 0 = .ok (.iconst 0, 1) := by decide +kernel
theorem d1 : decode yB 1 = .ok (.istore 5, 2) := by decide +kernel
theorem d3 : decode yB 3 = .ok (.iload 5, 2) := by decide +kernel
theorem d5 : decode yB 5 = .ok (.iload 4, 2) := by decide +kernel
theorem d7 : decode yB 7 = .ok (.if_icmp (.ge) 37, 3) := by decide +kernel
theorem d10 : decode yB 10 = .ok (.aload_n 0, 1) := by decide +kernel
theorem d11 : decode yB 11 = .ok (.iload_n 1, 1) := by decide +kernel
theorem d12 : decode yB 12 = .ok (.caload, 1) := by decide +kernel
theorem d13 : decode yB 13 = .ok (.istore 6, 2) := by decide +kernel
theorem d15 : decode yB 15 = .ok (.iload 6, 2) := by decide +kernel
theorem d17 : decode yB 17 = .ok (.sipush 255, 3) := by decide +kernel
theorem d20 : decode yB 20 = .ok (.if_icmp (.le) 6, 3) := by decide +kernel
theorem d26 : decode yB 26 = .ok (.aload_n 2, 1) := by decide +kernel
theorem d27 : decode yB 27 = .ok (.iload_n 3, 1) := by decide +kernel
theorem d28 : decode yB 28 = .ok (.iload 6, 2) := by decide +kernel
theorem d30 : decode yB 30 = .ok (.i2b, 1) := by decide +kernel
theorem d31 : decode yB 31 = .ok (.bastore, 1) := by decide +kernel
theorem d32 : decode yB 32 = .ok (.iinc 1 1, 3) := by decide +kernel
theorem d35 : decode yB 35 = .ok (.iinc 3 1, 3) := by decide +kernel
theorem d38 : decode yB 38 = .ok (.iinc 5 1, 3) := by decide +kernel
theorem d41 : decode yB 41 = .ok (.goto (-38), 3) := by decide +kernel
theorem d44 : decode yB 44 = .ok (.iload 4, 2) := by decide +kernel
theorem d46 : decode yB 46 = .ok (.ireturn, 1) := by decide +kernel
def site : List Cond := []
def tab : Cond := tabOf yN yB 7 (some .int) site
def P (b : Addr) (A : Cell) (d : Addr) (B : Cell) (o q len : Nat) (args : Array Value) (s : State) : Prop := args = #[.ref b, .int (Int32.ofNat o), .ref d, .int (Int32.ofNat q), .int (Int32.ofNat len)] ∧ Ch b A s ∧ Arr .byte d B s ∧ b ≠ d ∧ o + len ≤ A.slots.size ∧ q + len ≤ B.slots.size ∧ ∀ i, i < len → ¬ 255 < cv A (o + i)
def E (b : Addr) (A : Cell) (d : Addr) (B : Cell) (o q len : Nat) (r : Option Value) (s u : State) : Prop := r = some (.int (Int32.ofNat len)) ∧ ∃ B', Put d B' s u ∧ Laid B B' q (q + len) (fun j => Value.int (lo8 (cv A (o + (j - q)))))
/-- no char of the range above 255: len; the places written hold each char's low byte -/
theorem law (l : Launch) (b : Addr) (A : Cell) (d : Addr) (B : Cell) (o q len : Nat) : Law l yN 5 5 0 0 yB 7 (some .int) site (P b A d B o q len) (E b A d B o q len) (copyLocs d q len) 0 0 := by
  refine Law.of_walk (plainFor_of_name (by decide +kernel)) (by decide +kernel) (by decide +kernel) (by decide) (fun _ _ h => by rw [h.1]; rfl) (fun _ U U' hal hh h => ⟨h.1, h.2.1.mv hal hh, h.2.2.1.mv hal hh, h.2.2.2⟩) (fun r U U' V V' h1 hal h2 h => ⟨h.1, h.2.elim fun B' q => ⟨B', q.1.mv h1 h2, q.2⟩⟩) ?_
  intro p e s m args below meth c s₁ X0 hexec hbytes hml hret hlk hnm hown hh0 W hP
  obtain ⟨rfl, hA, hB, hne, l1, l2, hp⟩ := hP
  have c1 : Steps p.tables e below (s₁.setTop (entryFrame m #[.ref b, .int (Int32.ofNat o), .ref d, .int (Int32.ofNat q), .int (Int32.ofNat len)] 7)) (s₁.setTop (mkF m 0 #[.val (.ref b), .val (.int (Int32.ofNat o)), .val (.ref d), .val (.int (Int32.ofNat q)), .val (.int (Int32.ofNat len)), .unset, .unset] [])) := entry rfl
  have hA0 := hA.1.mv X0.warmed.alike hh0
  have hB0 := hB.mv X0.warmed.alike hh0
  have a31 := hA.1.2.2.2
  have c2 : Steps p.tables e below (s₁.setTop (entryFrame m #[.ref b, .int (Int32.ofNat o), .ref d, .int (Int32.ofNat q), .int (Int32.ofNat len)] 7)) (s₁.setTop (mkF m 3 #[.val (.ref b), .val (.int (Int32.ofNat o)), .val (.ref d), .val (.int (Int32.ofNat q)), .val (.int (Int32.ofNat len)), .val (.int 0), .unset] [])) := c1.trans (by
    refine iconstV X0.here hexec rfl 0 (hb hbytes d0) (by decide) ?_
    refine XS.istore X0.here hexec rfl (hb hbytes d1) rfl rfl ?_
    exact Steps.refl _)
  have loop : ∀ (r i : Nat), i + r = len → ∀ (z : Slot), (z = .unset ∨ ∃ w, z = .val w ∧ w.category = 1) → ∀ (Tl : State) (Bk : Cell), Stand p l e { frames := 0, locals := 0, cells := 0, slots := 0 } s m #[.ref b, .int (Int32.ofNat o), .ref d, .int (Int32.ofNat q), .int (Int32.ofNat len)] below meth c Tl ([] ++ copyLocs d q i) 0 0 → Put d Bk s₁ Tl → Laid B Bk q (q + i) (fun j => Value.int (lo8 (cv A (o + (j - q))))) →
      Steps p.tables e below (s₁.setTop (entryFrame m #[.ref b, .int (Int32.ofNat o), .ref d, .int (Int32.ofNat q), .int (Int32.ofNat len)] 7)) (Tl.setTop (mkF m 3 #[.val (.ref b), .val (.int (Int32.ofNat (o + i))), .val (.ref d), .val (.int (Int32.ofNat (q + i))), .val (.int (Int32.ofNat len)), .val (.int (Int32.ofNat i)), z] [])) → ∃ (T' : State) (B' : Cell) (z' : Slot), Stand p l e { frames := 0, locals := 0, cells := 0, slots := 0 } s m #[.ref b, .int (Int32.ofNat o), .ref d, .int (Int32.ofNat q), .int (Int32.ofNat len)] below meth c T' ([] ++ copyLocs d q len) 0 0 ∧ Put d B' s₁ T' ∧ Laid B B' q (q + len) (fun j => Value.int (lo8 (cv A (o + (j - q))))) ∧
      Steps p.tables e below (s₁.setTop (entryFrame m #[.ref b, .int (Int32.ofNat o), .ref d, .int (Int32.ofNat q), .int (Int32.ofNat len)] 7)) (T'.setTop (mkF m 3 #[.val (.ref b), .val (.int (Int32.ofNat (o + len))), .val (.ref d), .val (.int (Int32.ofNat (q + len))), .val (.int (Int32.ofNat len)), .val (.int (Int32.ofNat len)), z'] [])) := by
    intro r
    induction r with
    | zero =>
      intro i hi z hz Tl Bk Xl pl fl cl
      have hil : i = len := by omega
      rw [hil] at Xl fl cl
      exact ⟨Tl, Bk, z, Xl, pl, fl, cl⟩
    | succ r ih =>
      intro i hi z hz Tl Bk Xl pl fl cl
      have all := X0.warmed.alike.symm.trans Xl.warmed.alike
      have hAl := hA0.keep all (pl.other hne hA0.1)
      have hBk := hB0.like all pl.1 fl.1 fl.2.1 fl.2.2.1
      have hlt : q + i < Bk.slots.size := by rw [fl.2.2.1]; omega
      have c3 : Steps p.tables e below (s₁.setTop (entryFrame m #[.ref b, .int (Int32.ofNat o), .ref d, .int (Int32.ofNat q), .int (Int32.ofNat len)] 7)) (Tl.setTop (mkF m 12 #[.val (.ref b), .val (.int (Int32.ofNat (o + i))), .val (.ref d), .val (.int (Int32.ofNat (q + i))), .val (.int (Int32.ofNat len)), .val (.int (Int32.ofNat i)), z] [.int (Int32.ofNat (o + i)), .ref b])) := cl.trans (by
        refine XS.iload Xl.here hexec rfl (hb hbytes d3) rfl ?_
        refine XS.iload Xl.here hexec rfl (hb hbytes d5) rfl ?_
        refine XS.icmpNo Xl.here hexec rfl (hb hbytes d7) rfl (ii_ge_f (lt32 (by omega) (by omega))) ?_
        refine XS.aloadN Xl.here hexec rfl (hb hbytes d10) rfl rfl ?_
        refine XS.iloadN Xl.here hexec rfl (hb hbytes d11) rfl ?_
        exact Steps.refl _)
      have c4 : Steps p.tables e below (s₁.setTop (entryFrame m #[.ref b, .int (Int32.ofNat o), .ref d, .int (Int32.ofNat q), .int (Int32.ofNat len)] 7)) (Tl.setTop (mkF m 13 #[.val (.ref b), .val (.int (Int32.ofNat (o + i))), .val (.ref d), .val (.int (Int32.ofNat (q + i))), .val (.int (Int32.ofNat len)), .val (.int (Int32.ofNat i)), z] [.int (cv A (o + i))])) := c3.trans (by
        refine Xl.aget hexec hAl rfl (hA.get (i := o + i) (by omega)) rfl rfl (hb hbytes d12) ?_
        exact Steps.refl _)
      have c5 : Steps p.tables e below (s₁.setTop (entryFrame m #[.ref b, .int (Int32.ofNat o), .ref d, .int (Int32.ofNat q), .int (Int32.ofNat len)] 7)) (Tl.setTop (mkF m 15 #[.val (.ref b), .val (.int (Int32.ofNat (o + i))), .val (.ref d), .val (.int (Int32.ofNat (q + i))), .val (.int (Int32.ofNat len)), .val (.int (Int32.ofNat i)), .val (.int (cv A (o + i)))] [])) := c4.trans (by
        refine XS.istoreS Xl.here hexec rfl (hb hbytes d13) rfl rfl hz ?_
        exact Steps.refl _)
      have c6 : Steps p.tables e below (s₁.setTop (entryFrame m #[.ref b, .int (Int32.ofNat o), .ref d, .int (Int32.ofNat q), .int (Int32.ofNat len)] 7)) (Tl.setTop (mkF m 31 #[.val (.ref b), .val (.int (Int32.ofNat (o + i))), .val (.ref d), .val (.int (Int32.ofNat (q + i))), .val (.int (Int32.ofNat len)), .val (.int (Int32.ofNat i)), .val (.int (cv A (o + i)))] [.int (lo8 (cv A (o + i))), .int (Int32.ofNat (q + i)), .ref d])) := c5.trans (by
        refine XS.iload Xl.here hexec rfl (hb hbytes d15) rfl ?_
        refine sipushV Xl.here hexec rfl 255 (hb hbytes d17) (by decide) ?_
        refine XS.icmpYes Xl.here hexec rfl (pc0 := 20) rfl (hb hbytes d20) rfl (ii_le_t (hp i (by omega))) (by decide) rfl ?_
        refine XS.aloadN Xl.here hexec rfl (hb hbytes d26) rfl rfl ?_
        refine XS.iloadN Xl.here hexec rfl (hb hbytes d27) rfl ?_
        refine XS.iload Xl.here hexec rfl (hb hbytes d28) rfl ?_
        refine i2b Xl.here hexec rfl (hb hbytes d30) rfl ?_
        exact Steps.refl _)
      obtain ⟨T7, X7, p7, st7⟩ := Xl.aput hexec hBk rfl hlt rfl (fits_lo8 (cv A (o + i))) (g := (mkF m 31 #[.val (.ref b), .val (.int (Int32.ofNat (o + i))), .val (.ref d), .val (.int (Int32.ofNat (q + i))), .val (.int (Int32.ofNat len)), .val (.int (Int32.ofNat i)), .val (.int (cv A (o + i)))] [.int (lo8 (cv A (o + i))), .int (Int32.ofNat (q + i)), .ref d])) rfl (rest := []) rfl (hb hbytes d31)
      have c8 : Steps p.tables e below (s₁.setTop (entryFrame m #[.ref b, .int (Int32.ofNat o), .ref d, .int (Int32.ofNat q), .int (Int32.ofNat len)] 7)) (T7.setTop (mkF m 32 #[.val (.ref b), .val (.int (Int32.ofNat (o + i))), .val (.ref d), .val (.int (Int32.ofNat (q + i))), .val (.int (Int32.ofNat len)), .val (.int (Int32.ofNat i)), .val (.int (cv A (o + i)))] [])) := c6.trans (st7 _ (Steps.refl _))
      have c9 : Steps p.tables e below (s₁.setTop (entryFrame m #[.ref b, .int (Int32.ofNat o), .ref d, .int (Int32.ofNat q), .int (Int32.ofNat len)] 7)) (T7.setTop (mkF m 3 #[.val (.ref b), .val (.int (Int32.ofNat (o + i) + 1)), .val (.ref d), .val (.int (Int32.ofNat (q + i) + 1)), .val (.int (Int32.ofNat len)), .val (.int (Int32.ofNat i + 1)), .val (.int (cv A (o + i)))] [])) := c8.trans (by
        refine iincV X7.here hexec rfl 1 (hb hbytes d32) (by decide) rfl rfl ?_
        refine iincV X7.here hexec rfl 1 (hb hbytes d35) (by decide) rfl rfl ?_
        refine iincV X7.here hexec rfl 1 (hb hbytes d38) (by decide) rfl rfl ?_
        refine XS.goto X7.here hexec rfl (pc0 := 41) rfl (hb hbytes d41) (by decide) rfl ?_
        exact Steps.refl _)
      have c10 : Steps p.tables e below (s₁.setTop (entryFrame m #[.ref b, .int (Int32.ofNat o), .ref d, .int (Int32.ofNat q), .int (Int32.ofNat len)] 7)) (T7.setTop (mkF m 3 #[.val (.ref b), .val (.int (Int32.ofNat (o + (i + 1)))), .val (.ref d), .val (.int (Int32.ofNat (q + (i + 1)))), .val (.int (Int32.ofNat len)), .val (.int (Int32.ofNat (i + 1))), .val (.int (cv A (o + i)))] [])) := by
        have := c9
        rw [succ32, succ32, succ32] at this
        exact this
      exact ih (i + 1) (by omega) _ (Or.inr ⟨_, rfl, rfl⟩) T7 _ (by rw [copyLocs_step, ← List.append_assoc]; exact X7) (pl.trans p7) (fl.step (by omega) hlt (by simp)) c10
  obtain ⟨T9, B9, z9, X9, p9, f9, g9⟩ := loop len 0 (by omega) .unset (Or.inl rfl) s₁ B (by simpa [copyLocs] using X0) ⟨hB0.1, fun _ _ => rfl, rfl⟩ (Laid.zero _ _ _) c2
  have c11 : Steps p.tables e below (s₁.setTop (entryFrame m #[.ref b, .int (Int32.ofNat o), .ref d, .int (Int32.ofNat q), .int (Int32.ofNat len)] 7)) (T9.setTop (mkF m 46 #[.val (.ref b), .val (.int (Int32.ofNat (o + len))), .val (.ref d), .val (.int (Int32.ofNat (q + len))), .val (.int (Int32.ofNat len)), .val (.int (Int32.ofNat len)), z9] [.int (Int32.ofNat len)])) := g9.trans (by
    refine XS.iload X9.here hexec rfl (hb hbytes d3) rfl ?_
    refine XS.iload X9.here hexec rfl (hb hbytes d5) rfl ?_
    refine XS.icmpYes X9.here hexec rfl (pc0 := 7) rfl (hb hbytes d7) rfl (ii_ge_t (nlt32 (by omega) (Nat.le_refl _))) (by decide) rfl ?_
    refine XS.iload X9.here hexec rfl (hb hbytes d44) rfl ?_
    exact Steps.refl _)
  exact ⟨T9, some (.int (Int32.ofNat len)), _, _, _, X9, by simp, rfl, rfl, (fun h => by cases h), ⟨rfl, B9, p9.from hh0, f9⟩, fun fs hl => c11.trans (X9.ireturnOut hexec hret rfl (Or.inl rfl) (hb hbytes d46) hl)⟩
end Cmp5
namespace Cmp3
def yN : MethodName := ⟨"java/lang/StringUTF16", "compress", "([CII)[B"⟩
abbrev yB : ByteArray := jdk_52_method_16_code
theorem d0 : decode yB 0 = .ok (.iload_n 2, 1) := by decide +kernel
theorem d1 : decode yB 1 = .ok (.newarray .byte, 2) := by decide +kernel
theorem d3 : decode yB 3 = .ok (.astore_n 3, 1) := by decide +kernel
theorem d4 : decode yB 4 = .ok (.aload_n 0, 1) := by decide +kernel
theorem d5 : decode yB 5 = .ok (.iload_n 1, 1) := by decide +kernel
theorem d6 : decode yB 6 = .ok (.aload_n 3, 1) := by decide +kernel
theorem d7 : decode yB 7 = .ok (.iconst 0, 1) := by decide +kernel
theorem d8 : decode yB 8 = .ok (.iload_n 2, 1) := by decide +kernel
theorem d9 : decode yB 9 = .ok (.invokestatic 115, 3) := by decide +kernel
theorem d12 : decode yB 12 = .ok (.istore 4, 2) := by decide +kernel
theorem d14 : decode yB 14 = .ok (.iload 4, 2) := by decide +kernel
theorem d16 : decode yB 16 = .ok (.iload_n 2, 1) := by decide +kernel
theorem d17 : decode yB 17 = .ok (.if_icmp (.eq) 40, 3) := by decide +kernel
theorem d57 : decode yB 57 = .ok (.aload_n 3, 1) := by decide +kernel
theorem d58 : decode yB 58 = .ok (.areturn, 1) := by decide +kernel
def site : List Cond := [.arrayClass .byte, Cmp5.tab] ++ staticW U16 115 Cmp5.yN
def tab : Cond := tabOf yN yB 6 (some (.array .byte)) site
def P (b : Addr) (A : Cell) (o len : Nat) (args : Array Value) (s : State) : Prop := args = #[.ref b, .int (Int32.ofNat o), .int (Int32.ofNat len)] ∧ Ch b A s ∧ o + len ≤ A.slots.size ∧ len ≤ 536870912 ∧ ∀ i, i < len → ¬ 255 < cv A (o + i)
def E (b : Addr) (A : Cell) (o len : Nat) (r : Option Value) (s u : State) : Prop := NewArr .byte "[B" len (fun j => .int (lo8 (cv A (o + j)))) r s u ∧ u.heap.size = s.heap.size + 1
/-- no char of the range above 255: a new byte[] of their low bytes -/
theorem law (l : Launch) (b : Addr) (A : Cell) (o len : Nat) : Law l yN 3 3 1 18 yB 6 (some (.array .byte)) site (P b A o len) (E b A o len) [] 1 len := by
  refine Law.of_walk (plainFor_of_name (by decide +kernel)) (by decide +kernel) (by decide +kernel) (by decide) (fun _ _ h => by rw [h.1]; rfl) (fun _ U U' hal hh h => ⟨h.1, h.2.1.mv hal hh, h.2.2⟩) (fun r U U' V V' h1 hal h2 h => ⟨NewArr.mv r U U' V V' h1 hal h2 h.1, by rw [h1, h2]; exact h.2⟩) ?_
  intro p e s m args below meth c s₁ X0 hexec hbytes hml hret hlk hnm hown hh0 W hP
  obtain ⟨rfl, hA, l1, l2, hp⟩ := hP
  have a31 := hA.1.2.2.2
  have c1 : Steps p.tables e below (s₁.setTop (entryFrame m #[.ref b, .int (Int32.ofNat o), .int (Int32.ofNat len)] 6)) (s₁.setTop (mkF m 0 #[.val (.ref b), .val (.int (Int32.ofNat o)), .val (.int (Int32.ofNat len)), .unset, .unset, .unset] [])) := entry rfl
  have c2 : Steps p.tables e below (s₁.setTop (entryFrame m #[.ref b, .int (Int32.ofNat o), .int (Int32.ofNat len)] 6)) (s₁.setTop (mkF m 1 #[.val (.ref b), .val (.int (Int32.ofNat o)), .val (.int (Int32.ofNat len)), .unset, .unset, .unset] [.int (Int32.ofNat len)])) := c1.trans (by
    refine XS.iloadN X0.here hexec rfl (hb hbytes d0) rfl ?_
    exact Steps.refl _)
  obtain ⟨T3, B3, X3, ba3, bs3, bv3, bh3, bf3, st3⟩ := X0.anew hexec (atype := .byte) (wk W (.arrayClass .byte)) rfl (by show len * 1 ≤ _; omega) (by omega) (g := (mkF m 1 #[.val (.ref b), .val (.int (Int32.ofNat o)), .val (.int (Int32.ofNat len)), .unset, .unset, .unset] [.int (Int32.ofNat len)])) rfl (hb hbytes d1) (rest := []) rfl (Nat.le_refl _) (by show 0 + len ≤ len; omega)
  rw [hh0] at ba3 st3
  have kp3 : XT.Kept s T3 := (XT.Kept.of_eq hh0).push bh3
  have hA3 := hA.keep X3.warmed.alike (kp3 _ _ hA.1.1)
  have hne : b ≠ s.heap.size := hA.1.ne
  have c4 : Steps p.tables e below (s₁.setTop (entryFrame m #[.ref b, .int (Int32.ofNat o), .int (Int32.ofNat len)] 6)) (T3.setTop (mkF m 3 #[.val (.ref b), .val (.int (Int32.ofNat o)), .val (.int (Int32.ofNat len)), .unset, .unset, .unset] [.ref s.heap.size])) := c2.trans (st3 _ (Steps.refl _))
  have c5 : Steps p.tables e below (s₁.setTop (entryFrame m #[.ref b, .int (Int32.ofNat o), .int (Int32.ofNat len)] 6)) (T3.setTop (mkF m 9 #[.val (.ref b), .val (.int (Int32.ofNat o)), .val (.int (Int32.ofNat len)), .val (.ref s.heap.size), .unset, .unset] [.int (Int32.ofNat len), .int 0, .ref s.heap.size, .int (Int32.ofNat o), .ref b])) := c4.trans (by
    refine XS.astoreN X3.here hexec rfl (hb hbytes d3) rfl rfl rfl ?_
    refine XS.aloadN X3.here hexec rfl (hb hbytes d4) rfl rfl ?_
    refine XS.iloadN X3.here hexec rfl (hb hbytes d5) rfl ?_
    refine XS.aloadN X3.here hexec rfl (hb hbytes d6) rfl rfl ?_
    refine iconstV X3.here hexec rfl 0 (hb hbytes d7) (by decide) ?_
    refine XS.iloadN X3.here hexec rfl (hb hbytes d8) rfl ?_
    exact Steps.refl _)
  obtain ⟨v6, T6, X6, E6, g6⟩ := X3.callS hexec (Cmp5.law l b A s.heap.size B3 o 0 len) hown (wks W (staticW U16 115 Cmp5.yN)) (wk W Cmp5.tab) (W := 0) (Nat.le_of_ble_eq_true rfl) (Nat.le_of_ble_eq_true rfl) (Nat.le_refl _) (by show 0 + len + 0 ≤ len; omega) (g := (mkF m 9 #[.val (.ref b), .val (.int (Int32.ofNat o)), .val (.int (Int32.ofNat len)), .val (.ref s.heap.size), .unset, .unset] [.int (Int32.ofNat len), .int (Int32.ofNat 0), .ref s.heap.size, .int (Int32.ofNat o), .ref b])) rfl (by rw [hml]; rfl) c5 (argsL := [.ref b, .int (Int32.ofNat o), .ref s.heap.size, .int (Int32.ofNat 0), .int (Int32.ofNat len)]) (rest := []) rfl rfl (by show 2 * 0 + 0 ≤ _; decide) (hb hbytes d9) (⟨rfl, hA3, ba3, hne, l1, by rw [bs3]; simp, hp⟩)
  obtain ⟨rfl, B6, p6, f6⟩ := E6
  have c7 : Steps p.tables e below (s₁.setTop (entryFrame m #[.ref b, .int (Int32.ofNat o), .int (Int32.ofNat len)] 6)) (T6.setTop (mkF m 12 #[.val (.ref b), .val (.int (Int32.ofNat o)), .val (.int (Int32.ofNat len)), .val (.ref s.heap.size), .unset, .unset] [.int (Int32.ofNat len)])) := g6
  have c8 : Steps p.tables e below (s₁.setTop (entryFrame m #[.ref b, .int (Int32.ofNat o), .int (Int32.ofNat len)] 6)) (T6.setTop (mkF m 58 #[.val (.ref b), .val (.int (Int32.ofNat o)), .val (.int (Int32.ofNat len)), .val (.ref s.heap.size), .val (.int (Int32.ofNat len)), .unset] [.ref s.heap.size])) := c7.trans (by
    refine XS.istore X6.here hexec rfl (hb hbytes d12) rfl rfl ?_
    refine XS.iload X6.here hexec rfl (hb hbytes d14) rfl ?_
    refine XS.iloadN X6.here hexec rfl (hb hbytes d16) rfl ?_
    refine XS.icmpYes X6.here hexec rfl (pc0 := 17) rfl (hb hbytes d17) rfl (ii_eq_t rfl) (by decide) rfl ?_
    refine XS.aloadN X6.here hexec rfl (hb hbytes d57) rfl rfl ?_
    exact Steps.refl _)
  have X8 := X6.wide (L' := []) (cells' := 1) (slots' := len) (fun x hx hlt => by
    simp only [List.nil_append, copyLocs, List.mem_map, List.mem_range] at hx
    obtain ⟨i, -, rfl⟩ := hx
    exact absurd hlt (Nat.lt_irrefl _)) (Nat.le_refl _) (by omega)
  exact ⟨T6, some (.ref s.heap.size), _, _, _, X8, rfl, rfl, rfl, (fun h => by cases h), ⟨⟨rfl, B6, ba3.like (X3.warmed.alike.symm.trans X6.warmed.alike) p6.1 f6.1 f6.2.1 f6.2.2.1, f6.2.1.trans bv3, by rw [X6.warmed.alike.findClass, f6.1]; exact bf3, by rw [f6.2.2.1, bs3]; simp, fun j hj => by rw [f6.2.2.2 j, if_pos (by omega)]; rfl, kp3.put p6 (Nat.le_refl _)⟩, by rw [p6.2.2, bh3, hh0]; simp⟩, fun fs hl => c8.trans (X8.areturnOut hexec rfl hret rfl (hb hbytes d58) hl)⟩
end Cmp3
namespace CodL
def yN : MethodName := ⟨"java/lang/StringUTF16", "coderFromArrayLen", "([BI)B"⟩
abbrev yB : ByteArray := jdk_52_method_15_code
theorem d0 : decode yB 0 = .ok (.iload_n 1, 1) := by decide +kernel
theorem d1 : decode yB 1 = .ok (.aload_n 0, 1) := by decide +kernel
theorem d2 : decode yB 2 = .ok (.arraylength, 1) := by decide +kernel
theorem d3 : decode yB 3 = .ok (.isub, 1) := by decide +kernel
theorem d4 : decode yB 4 = .ok (.bipush 31, 2) := by decide +kernel
theorem d6 : decode yB 6 = .ok (.iushr, 1) := by decide +kernel
theorem d7 : decode yB 7 = .ok (.i2b, 1) := by decide +kernel
theorem d8 : decode yB 8 = .ok (.ireturn, 1) := by decide +kernel
def site : List Cond := []
def tab : Cond := tabOf yN yB 2 (some .byte) site
def P (d : Addr) (B : Cell) (args : Array Value) (s : State) : Prop := args = #[.ref d, .int (Int32.ofNat B.slots.size)] ∧ Arr .byte d B s
def E (r : Option Value) (s u : State) : Prop := XT.PureE (some (.int 0)) r s u
/-- an array as long as the number of chars: LATIN1 -/
theorem law (l : Launch) (d : Addr) (B : Cell) : Law l yN 2 2 0 0 yB 2 (some .byte) site (P d B) E [] 0 0 := by
  refine Law.of_walk (plainFor_of_name (by decide +kernel)) (by decide +kernel) (by decide +kernel) (by decide) (fun _ _ h => by rw [h.1]; rfl) (fun _ U U' hal hh h => ⟨h.1, h.2.mv hal hh⟩) (fun r U U' V V' h1 hal h2 h => XT.PureE.mv r U U' V V' h1 hal h2 h) ?_
  intro p e s m args below meth c s₁ X0 hexec hbytes hml hret hlk hnm hown hh0 W hP
  obtain ⟨rfl, hB⟩ := hP
  have hB0 := hB.mv X0.warmed.alike hh0
  have c1 : Steps p.tables e below (s₁.setTop (entryFrame m #[.ref d, .int (Int32.ofNat B.slots.size)] 2)) (s₁.setTop (mkF m 0 #[.val (.ref d), .val (.int (Int32.ofNat B.slots.size))] [])) := entry rfl
  have c2 : Steps p.tables e below (s₁.setTop (entryFrame m #[.ref d, .int (Int32.ofNat B.slots.size)] 2)) (s₁.setTop (mkF m 2 #[.val (.ref d), .val (.int (Int32.ofNat B.slots.size))] [.ref d, .int (Int32.ofNat B.slots.size)])) := c1.trans (by
    refine XS.iloadN X0.here hexec rfl (hb hbytes d0) rfl ?_
    refine XS.aloadN X0.here hexec rfl (hb hbytes d1) rfl rfl ?_
    exact Steps.refl _)
  have c3 : Steps p.tables e below (s₁.setTop (entryFrame m #[.ref d, .int (Int32.ofNat B.slots.size)] 2)) (s₁.setTop (mkF m 8 #[.val (.ref d), .val (.int (Int32.ofNat B.slots.size))] [.int (lo8 (ushr (Int32.ofNat B.slots.size - Int32.ofNat B.slots.size) 31))])) := c2.trans (by
    refine X0.alen hexec hB0 rfl rfl (hb hbytes d2) ?_
    refine XS.isub X0.here hexec rfl (hb hbytes d3) rfl ?_
    refine bipushV X0.here hexec rfl 31 (hb hbytes d4) (by decide) ?_
    refine iushr X0.here hexec rfl (hb hbytes d6) rfl ?_
    refine i2b X0.here hexec rfl (hb hbytes d7) rfl ?_
    exact Steps.refl _)
  have e0 : lo8 (ushr (Int32.ofNat B.slots.size - Int32.ofNat B.slots.size) 31) = 0 := by rw [Int32.sub_self]; decide
  rw [e0] at c3
  exact ⟨s₁, some (.int 0), _, _, _, X0, rfl, rfl, rfl, (fun h => by cases h), ⟨rfl, hh0⟩, fun fs hl => c3.trans (X0.ireturnOut hexec hret rfl (Or.inr (Or.inr (Or.inl rfl))) (hb hbytes d8) hl)⟩
end CodL
/-- the String at a is Latin-1 over a new byte[] (the heap's one new cell): the low bytes of the len chars of A from o on; every cell but a is kept -/
def Got (a : Addr) (D : Cell) (fV fC : Field) (A : Cell) (o len : Nat) (r : Option Value) (s u : State) : Prop := r = none ∧ ∃ D' V : Cell, Blank "java/lang/String" a D' u ∧ Same D D' [fV.slot, fC.slot] ∧ D'.slots[fV.slot]? = some (.ref s.heap.size) ∧ D'.slots[fC.slot]? = some (.int 0) ∧ Arr .byte s.heap.size V u ∧ V.vm = .none ∧ u.vm.findClass "[B" = some V.cls ∧ V.slots.size = len ∧ (∀ j, j < len → V.slots[j]? = some (.int (lo8 (cv A (o + j))))) ∧ (∀ (y : Addr) (c : Cell), y ≠ a → s.heap[y]? = some c → u.heap[y]? = some c) ∧ u.heap.size = s.heap.size + 1
theorem Got.mv {a : Addr} {D A : Cell} {fV fC : Field} {o len : Nat} : ∀ r (U U' V V' : State), U'.heap = U.heap → V.vm.Alike V'.vm → V'.heap = V.heap → Got a D fV fC A o len r U V → Got a D fV fC A o len r U' V' :=
  fun r U U' V V' h1 hal h2 ⟨e0, D', X, a1, a2, a3, a4, a5, a6, a7, a8, a9, a10, a11⟩ => ⟨e0, D', X, a1.mv hal h2, a2, by rw [h1]; exact a3, a4, by rw [h1]; exact a5.mv hal h2, a6, by rw [hal.findClass]; exact a7, a8, a9, by rw [h1, h2]; exact a10, by rw [h1, h2]; exact a11⟩
namespace New4
def yN : MethodName := ⟨"java/lang/String", "<init>", "([CIILjava/lang/Void;)V"⟩
abbrev yB : ByteArray := jdk_42_method_149_code
theorem d0 : decode yB 0 = .ok (.aload_n 0, 1) := by decide +kernel
theorem d1 : decode yB 1 = .ok (.invokespecial 1, 3) := by decide +kernel
theorem d4 : decode yB 4 = .ok (.iload_n 3, 1) := by decide +kernel
theorem d5 : decode yB 5 = .ok (.ifCond (.ne) 22, 3) := by decide +kernel
theorem d27 : decode yB 27 = .ok (.getstatic 38, 3) := by decide +kernel
theorem d30 : decode yB 30 = .ok (.ifCond (.eq) 28, 3) := by decide +kernel
theorem d33 : decode yB 33 = .ok (.aload_n 1, 1) := by decide +kernel
theorem d34 : decode yB 34 = .ok (.iload_n 2, 1) := by decide +kernel
theorem d35 : decode yB 35 = .ok (.iload_n 3, 1) := by decide +kernel
theorem d36 : decode yB 36 = .ok (.invokestatic 177, 3) := by decide +kernel
theorem d39 : decode yB 39 = .ok (.astore 5, 2) := by decide +kernel
theorem d41 : decode yB 41 = .ok (.aload_n 0, 1) := by decide +kernel
theorem d42 : decode yB 42 = .ok (.aload 5, 2) := by decide +kernel
theorem d44 : decode yB 44 = .ok (.iload_n 3, 1) := by decide +kernel
theorem d45 : decode yB 45 = .ok (.invokestatic 47, 3) := by decide +kernel
theorem d48 : decode yB 48 = .ok (.putfield 15, 3) := by decide +kernel
theorem d51 : decode yB 51 = .ok (.aload_n 0, 1) := by decide +kernel
theorem d52 : decode yB 52 = .ok (.aload 5, 2) := by decide +kernel
theorem d54 : decode yB 54 = .ok (.putfield 9, 3) := by decide +kernel
theorem d57 : decode yB 57 = .ok (.return_, 1) := by decide +kernel
def site : List Cond := [.fieldLink "java/lang/String" 38 "java/lang/String" "COMPACT_STRINGS" "Z", Cmp3.tab, CodL.tab, .laysFinal "java/lang/String" "java/lang/String" "value" "[B", .fieldLink "java/lang/String" 9 "java/lang/String" "value" "[B", .laysFinal "java/lang/String" "java/lang/String" "coder" "B", .fieldLink "java/lang/String" 15 "java/lang/String" "coder" "B"] ++ objW "java/lang/String" 1 ++ staticW "java/lang/String" 177 Cmp3.yN ++ staticW "java/lang/String" 47 CodL.yN
def tab : Cond := tabOf yN yB 6 none site
def P (a : Addr) (D : Cell) (fV fC : Field) (b : Addr) (A : Cell) (z : Int32) (o len : Nat) (args : Array Value) (s : State) : Prop := args = #[.ref a, .ref b, .int (Int32.ofNat o), .int (Int32.ofNat len), .null] ∧ Blank "java/lang/String" a D s ∧ Found "java/lang/String" "value" "[B" fV s ∧ Found "java/lang/String" "coder" "B" fC s ∧ Ch b A s ∧ StaticIs s "java/lang/String" "COMPACT_STRINGS" "Z" (.int z) ∧ ¬ z = 0 ∧ 0 < len ∧ o + len ≤ A.slots.size ∧ len ≤ 536870912 ∧ ∀ i, i < len → ¬ 255 < cv A (o + i)
def E (a : Addr) (D : Cell) (fV fC : Field) (A : Cell) (o len : Nat) (r : Option Value) (s u : State) : Prop := Got a D fV fC A o len r s u
/-- len > 0, no char of the range above 255: a Latin-1 String of their low bytes -/
theorem law (l : Launch) (a : Addr) (D : Cell) (fV fC : Field) (b : Addr) (A : Cell) (z : Int32) (o len : Nat) : Law l yN 5 4 2 35 yB 6 none site (P a D fV fC b A z o len) (E a D fV fC A o len) [⟨a, fC.slot⟩, ⟨a, fV.slot⟩] 1 len := by
  refine Law.of_walk (plainFor_of_name (by decide +kernel)) (by decide +kernel) (by decide +kernel) (by decide) (fun _ _ h => by rw [h.1]; rfl) (fun _ U U' hal hh h => ⟨h.1, h.2.1.mv hal hh, h.2.2.1.al hal, h.2.2.2.1.al hal, h.2.2.2.2.1.mv hal hh, h.2.2.2.2.2.1.there hal hh, h.2.2.2.2.2.2⟩) (fun r U U' V V' h1 hal h2 h => Got.mv r U U' V V' h1 hal h2 h) ?_
  intro p e s m args below meth c s₁ X0 hexec hbytes hml hret hlk hnm hown hh0 W hP
  obtain ⟨rfl, hB, f1, f2, hA, s1, hz, l0, l1, l2, hp⟩ := hP
  have a31 := hA.1.2.2.2
  have c1 : Steps p.tables e below (s₁.setTop (entryFrame m #[.ref a, .ref b, .int (Int32.ofNat o), .int (Int32.ofNat len), .null] 6)) (s₁.setTop (mkF m 0 #[.val (.ref a), .val (.ref b), .val (.int (Int32.ofNat o)), .val (.int (Int32.ofNat len)), .val .null, .unset] [])) := entry rfl
  have c2 : Steps p.tables e below (s₁.setTop (entryFrame m #[.ref a, .ref b, .int (Int32.ofNat o), .int (Int32.ofNat len), .null] 6)) (s₁.setTop (mkF m 1 #[.val (.ref a), .val (.ref b), .val (.int (Int32.ofNat o)), .val (.int (Int32.ofNat len)), .val .null, .unset] [.ref a])) := c1.trans (by
    refine XS.aloadN X0.here hexec rfl (hb hbytes d0) rfl rfl ?_
    exact Steps.refl _)
  obtain ⟨T3, X3, q3, st3⟩ := X0.oinit hexec hown (wks W (objW "java/lang/String" 1)) (g := (mkF m 1 #[.val (.ref a), .val (.ref b), .val (.int (Int32.ofNat o)), .val (.int (Int32.ofNat len)), .val .null, .unset] [.ref a])) rfl (by rw [hml]; rfl) (rest := []) rfl (hb hbytes d1) (W := 0) (by show 2 * 0 + 0 ≤ _; decide) (Nat.le_of_ble_eq_true rfl) (Nat.le_of_ble_eq_true rfl)
  have hh3 := q3.trans hh0
  have c4 : Steps p.tables e below (s₁.setTop (entryFrame m #[.ref a, .ref b, .int (Int32.ofNat o), .int (Int32.ofNat len), .null] 6)) (T3.setTop (mkF m 27 #[.val (.ref a), .val (.ref b), .val (.int (Int32.ofNat o)), .val (.int (Int32.ofNat len)), .val .null, .unset] [])) := (c2.trans (st3 _ (Steps.refl _))).trans (by
    refine XS.iloadN X3.here hexec rfl (hb hbytes d4) rfl ?_
    refine XS.ifYes X3.here hexec rfl (pc0 := 5) rfl (hb hbytes d5) rfl (i0_ne_t (nz32 (by omega) l0)) (by decide) rfl ?_
    exact Steps.refl _)
  obtain ⟨T5, X5, q5, st5⟩ := X3.sget hexec hown (wk W (.fieldLink "java/lang/String" 38 "java/lang/String" "COMPACT_STRINGS" "Z")) s1 (fun _ _ h => by rw [hh3]; exact h) (g := (mkF m 27 #[.val (.ref a), .val (.ref b), .val (.int (Int32.ofNat o)), .val (.int (Int32.ofNat len)), .val .null, .unset] [])) rfl (hb hbytes d27)
  have hh5 := q5.trans hh3
  have c6 : Steps p.tables e below (s₁.setTop (entryFrame m #[.ref a, .ref b, .int (Int32.ofNat o), .int (Int32.ofNat len), .null] 6)) (T5.setTop (mkF m 30 #[.val (.ref a), .val (.ref b), .val (.int (Int32.ofNat o)), .val (.int (Int32.ofNat len)), .val .null, .unset] [.int z])) := c4.trans (st5 _ (Steps.refl _))
  have c7 : Steps p.tables e below (s₁.setTop (entryFrame m #[.ref a, .ref b, .int (Int32.ofNat o), .int (Int32.ofNat len), .null] 6)) (T5.setTop (mkF m 36 #[.val (.ref a), .val (.ref b), .val (.int (Int32.ofNat o)), .val (.int (Int32.ofNat len)), .val .null, .unset] [.int (Int32.ofNat len), .int (Int32.ofNat o), .ref b])) := c6.trans (by
    refine XS.ifNo X5.here hexec rfl (hb hbytes d30) rfl (i0_eq_f hz) ?_
    refine XS.aloadN X5.here hexec rfl (hb hbytes d33) rfl rfl ?_
    refine XS.iloadN X5.here hexec rfl (hb hbytes d34) rfl ?_
    refine XS.iloadN X5.here hexec rfl (hb hbytes d35) rfl ?_
    exact Steps.refl _)
  obtain ⟨v8, T8, X8, E8, g8⟩ := X5.callS hexec (Cmp3.law l b A o len) hown (wks W (staticW "java/lang/String" 177 Cmp3.yN)) (wk W Cmp3.tab) (W := 0) (Nat.le_of_ble_eq_true rfl) (Nat.le_of_ble_eq_true rfl) (Nat.le_refl _) (by show 0 + len ≤ len; omega) (g := (mkF m 36 #[.val (.ref a), .val (.ref b), .val (.int (Int32.ofNat o)), .val (.int (Int32.ofNat len)), .val .null, .unset] [.int (Int32.ofNat len), .int (Int32.ofNat o), .ref b])) rfl (by rw [hml]; rfl) c7 (argsL := [.ref b, .int (Int32.ofNat o), .int (Int32.ofNat len)]) (rest := []) rfl rfl (by show 2 * 0 + 0 ≤ _; decide) (hb hbytes d36) (⟨rfl, hA.mv X5.warmed.alike hh5, l1, l2, hp⟩)
  obtain ⟨e8, z8⟩ := E8
  obtain ⟨rfl, N, n1, n2, n3, n4, n5, n6⟩ := NewArr.mv _ T5 s _ _ hh5.symm (Vm.Alike.refl _) rfl e8
  rw [hh5] at z8
  have hB1 := hB.keep X8.warmed.alike (n6 _ _ hB.1)
  have hne : s.heap.size ≠ a := (Nat.ne_of_lt (Array.getElem?_eq_some_iff.mp hB.1).1).symm
  have c9 : Steps p.tables e below (s₁.setTop (entryFrame m #[.ref a, .ref b, .int (Int32.ofNat o), .int (Int32.ofNat len), .null] 6)) (T8.setTop (mkF m 39 #[.val (.ref a), .val (.ref b), .val (.int (Int32.ofNat o)), .val (.int (Int32.ofNat len)), .val .null, .unset] [.ref s.heap.size])) := g8
  have c10 : Steps p.tables e below (s₁.setTop (entryFrame m #[.ref a, .ref b, .int (Int32.ofNat o), .int (Int32.ofNat len), .null] 6)) (T8.setTop (mkF m 45 #[.val (.ref a), .val (.ref b), .val (.int (Int32.ofNat o)), .val (.int (Int32.ofNat len)), .val .null, .val (.ref s.heap.size)] [.int (Int32.ofNat N.slots.size), .ref s.heap.size, .ref a])) := by
    have hc : Steps p.tables e below (s₁.setTop (entryFrame m #[.ref a, .ref b, .int (Int32.ofNat o), .int (Int32.ofNat len), .null] 6)) (T8.setTop (mkF m 45 #[.val (.ref a), .val (.ref b), .val (.int (Int32.ofNat o)), .val (.int (Int32.ofNat len)), .val .null, .val (.ref s.heap.size)] [.int (Int32.ofNat len), .ref s.heap.size, .ref a])) := c9.trans (by
      refine XS.astore X8.here hexec rfl (hb hbytes d39) rfl rfl rfl ?_
      refine XS.aloadN X8.here hexec rfl (hb hbytes d41) rfl rfl ?_
      refine XS.aload X8.here hexec rfl (hb hbytes d42) rfl rfl ?_
      refine XS.iloadN X8.here hexec rfl (hb hbytes d44) rfl ?_
      exact Steps.refl _)
    rw [n4]; exact hc
  obtain ⟨v11, T11, X11, E11, g11⟩ := X8.callS hexec (CodL.law l s.heap.size N) hown (wks W (staticW "java/lang/String" 47 CodL.yN)) (wk W CodL.tab) (W := 1) (Nat.le_of_ble_eq_true rfl) (Nat.le_of_ble_eq_true rfl) (Nat.le_refl _) (by show 0 + len + 0 ≤ len; omega) (g := (mkF m 45 #[.val (.ref a), .val (.ref b), .val (.int (Int32.ofNat o)), .val (.int (Int32.ofNat len)), .val .null, .val (.ref s.heap.size)] [.int (Int32.ofNat N.slots.size), .ref s.heap.size, .ref a])) rfl (by rw [hml]; rfl) c10 (argsL := [.ref s.heap.size, .int (Int32.ofNat N.slots.size)]) (rest := [.ref a]) rfl rfl (by show 2 * 0 + (1 + 0) ≤ _; decide) (hb hbytes d45) (⟨rfl, n1⟩)
  obtain ⟨rfl, q11⟩ := E11
  have hB11 := hB1.mv (X8.warmed.alike.symm.trans X11.warmed.alike) q11
  have c12 : Steps p.tables e below (s₁.setTop (entryFrame m #[.ref a, .ref b, .int (Int32.ofNat o), .int (Int32.ofNat len), .null] 6)) (T11.setTop (mkF m 48 #[.val (.ref a), .val (.ref b), .val (.int (Int32.ofNat o)), .val (.int (Int32.ofNat len)), .val .null, .val (.ref s.heap.size)] [.int 0, .ref a])) := g11
  obtain ⟨T13, X13, p13, bl13, sl13, st13⟩ := X11.finit hexec hown (wk W (.fieldLink "java/lang/String" 15 "java/lang/String" "coder" "B")) (Or.inr ⟨_, (wk W (.laysFinal "java/lang/String" "java/lang/String" "coder" "B"))⟩) (Or.inl ⟨rfl, hnm⟩) f2 (Or.inl rfl) hB11 (t := .byte) (by decide +kernel) rfl (g := (mkF m 48 #[.val (.ref a), .val (.ref b), .val (.int (Int32.ofNat o)), .val (.int (Int32.ofNat len)), .val .null, .val (.ref s.heap.size)] [.int 0, .ref a])) rfl (rest := []) rfl (hb hbytes d48)
  have c14 : Steps p.tables e below (s₁.setTop (entryFrame m #[.ref a, .ref b, .int (Int32.ofNat o), .int (Int32.ofNat len), .null] 6)) (T13.setTop (mkF m 54 #[.val (.ref a), .val (.ref b), .val (.int (Int32.ofNat o)), .val (.int (Int32.ofNat len)), .val .null, .val (.ref s.heap.size)] [.ref s.heap.size, .ref a])) := (c12.trans (st13 _ (Steps.refl _))).trans (by
    refine XS.aloadN X13.here hexec rfl (hb hbytes d51) rfl rfl ?_
    refine XS.aload X13.here hexec rfl (hb hbytes d52) rfl rfl ?_
    exact Steps.refl _)
  obtain ⟨T15, X15, p15, bl15, sl15, st15⟩ := X13.finit hexec hown (wk W (.fieldLink "java/lang/String" 9 "java/lang/String" "value" "[B")) (Or.inr ⟨_, (wk W (.laysFinal "java/lang/String" "java/lang/String" "value" "[B"))⟩) (Or.inl ⟨rfl, hnm⟩) f1 (Or.inl rfl) bl13 (t := (.array .byte)) (by decide +kernel) rfl (g := (mkF m 54 #[.val (.ref a), .val (.ref b), .val (.int (Int32.ofNat o)), .val (.int (Int32.ofNat len)), .val .null, .val (.ref s.heap.size)] [.ref s.heap.size, .ref a])) rfl (rest := []) rfl (hb hbytes d54)
  have c16 : Steps p.tables e below (s₁.setTop (entryFrame m #[.ref a, .ref b, .int (Int32.ofNat o), .int (Int32.ofNat len), .null] 6)) (T15.setTop (mkF m 57 #[.val (.ref a), .val (.ref b), .val (.int (Int32.ofNat o)), .val (.int (Int32.ofNat len)), .val .null, .val (.ref s.heap.size)] [])) := c14.trans (st15 _ (Steps.refl _))
  have ap := apart (Or.inr ⟨_, (wk W (.laysFinal "java/lang/String" "java/lang/String" "value" "[B"))⟩) (Or.inr ⟨_, (wk W (.laysFinal "java/lang/String" "java/lang/String" "coder" "B"))⟩) f1 f2 (t₁ := .array .byte) (t₂ := .byte) (by decide +kernel) (by decide +kernel) (by decide)
  have al := X8.warmed.alike.symm.trans X15.warmed.alike
  have n7 : T11.heap[s.heap.size]? = some N := by rw [q11]; exact n1.1
  exact ⟨T15, none, _, _, _, X15, by simp, rfl, by omega, (fun _ => rfl), ⟨rfl, _, N, bl15, ((Same.refl D _).set _ (by simp)).set _ (by simp), sl15, (Cell.slots_setSlot_ne _ ap).trans sl13, n1.keep al (p15.other hne (p13.other hne n7)), n2, by rw [al.findClass]; exact n3, n4, n5, fun y c h1 h2 => p15.other h1 (p13.other h1 (by rw [q11]; exact n6 y c h2)), by rw [p15.2.2, p13.2.2, q11]; exact z8⟩, fun fs hl => c16.trans (X15.returnOut hexec hret (hb hbytes d57) hl)⟩
end New4
namespace New1
def yN : MethodName := ⟨"java/lang/String", "<init>", "([C)V"⟩
abbrev yB : ByteArray := jdk_42_method_3_code
theorem d0 : decode yB 0 = .ok (.aload_n 0, 1) := by decide +kernel
theorem d1 : decode yB 1 = .ok (.aload_n 1, 1) := by decide +kernel
theorem d2 : decode yB 2 = .ok (.iconst 0, 1) := by decide +kernel
theorem d3 : decode yB 3 = .ok (.aload_n 1, 1) := by decide +kernel
theorem d4 : decode yB 4 = .ok (.arraylength, 1) := by decide +kernel
theorem d5 : decode yB 5 = .ok (.aconst_null, 1) := by decide +kernel
theorem d6 : decode yB 6 = .ok (.invokespecial 27, 3) := by decide +kernel
theorem d9 : decode yB 9 = .ok (.return_, 1) := by decide +kernel
def site : List Cond := [New4.tab] ++ initW "java/lang/String" 27 New4.yN
def tab : Cond := tabOf yN yB 2 none site
def P (a : Addr) (D : Cell) (fV fC : Field) (b : Addr) (A : Cell) (z : Int32) (args : Array Value) (s : State) : Prop := args = #[.ref a, .ref b] ∧ Blank "java/lang/String" a D s ∧ Found "java/lang/String" "value" "[B" fV s ∧ Found "java/lang/String" "coder" "B" fC s ∧ Ch b A s ∧ StaticIs s "java/lang/String" "COMPACT_STRINGS" "Z" (.int z) ∧ ¬ z = 0 ∧ 0 < A.slots.size ∧ A.slots.size ≤ 536870912 ∧ ∀ i, i < A.slots.size → ¬ 255 < cv A i
def E (a : Addr) (D : Cell) (fV fC : Field) (A : Cell) (r : Option Value) (s u : State) : Prop := Got a D fV fC A 0 A.slots.size r s u
/-- new String(chars), not empty, no char above 255: a Latin-1 String of their low bytes -/
theorem law (l : Launch) (a : Addr) (D : Cell) (fV fC : Field) (b : Addr) (A : Cell) (z : Int32) : Law l yN 2 1 3 52 yB 2 none site (P a D fV fC b A z) (E a D fV fC A) [⟨a, fC.slot⟩, ⟨a, fV.slot⟩] 1 A.slots.size := by
  refine Law.of_walk (plainFor_of_name (by decide +kernel)) (by decide +kernel) (by decide +kernel) (by decide) (fun _ _ h => by rw [h.1]; rfl) (fun _ U U' hal hh h => ⟨h.1, h.2.1.mv hal hh, h.2.2.1.al hal, h.2.2.2.1.al hal, h.2.2.2.2.1.mv hal hh, h.2.2.2.2.2.1.there hal hh, h.2.2.2.2.2.2⟩) (fun r U U' V V' h1 hal h2 h => Got.mv r U U' V V' h1 hal h2 h) ?_
  intro p e s m args below meth c s₁ X0 hexec hbytes hml hret hlk hnm hown hh0 W hP
  obtain ⟨rfl, hB, f1, f2, hA, s1, hz, l0, l2, hp⟩ := hP
  have c1 : Steps p.tables e below (s₁.setTop (entryFrame m #[.ref a, .ref b] 2)) (s₁.setTop (mkF m 0 #[.val (.ref a), .val (.ref b)] [])) := entry rfl
  have c2 : Steps p.tables e below (s₁.setTop (entryFrame m #[.ref a, .ref b] 2)) (s₁.setTop (mkF m 6 #[.val (.ref a), .val (.ref b)] [.null, .int (Int32.ofNat A.slots.size), .int 0, .ref b, .ref a])) := c1.trans (by
    refine XS.aloadN X0.here hexec rfl (hb hbytes d0) rfl rfl ?_
    refine XS.aloadN X0.here hexec rfl (hb hbytes d1) rfl rfl ?_
    refine iconstV X0.here hexec rfl 0 (hb hbytes d2) (by decide) ?_
    refine XS.aloadN X0.here hexec rfl (hb hbytes d3) rfl rfl ?_
    refine X0.alen hexec (hA.1.mv X0.warmed.alike hh0) rfl rfl (hb hbytes d4) ?_
    refine XS.aconstNull X0.here hexec rfl (hb hbytes d5) ?_
    exact Steps.refl _)
  obtain ⟨v3, T3, X3, E3, g3⟩ := X0.callN hexec (New4.law l a D fV fC b A z 0 A.slots.size) rfl hown (wks W (initW "java/lang/String" 27 New4.yN)) (W New4.tab (by simp only [site, List.mem_cons, List.mem_append, true_or, or_true])) (W := 0) (Nat.le_of_ble_eq_true rfl) (Nat.le_of_ble_eq_true rfl) (Nat.le_refl _) (by show 0 + A.slots.size ≤ A.slots.size; omega) (g := (mkF m 6 #[.val (.ref a), .val (.ref b)] [.null, .int (Int32.ofNat A.slots.size), .int (Int32.ofNat 0), .ref b, .ref a])) rfl (by rw [hml]; rfl) c2 (argsL := [.ref b, .int (Int32.ofNat 0), .int (Int32.ofNat A.slots.size), .null]) (rest := []) rfl rfl (by show 2 * 0 + 0 ≤ _; decide) (hb hbytes d6) (⟨rfl, hB.mv X0.warmed.alike hh0, f1.al X0.warmed.alike, f2.al X0.warmed.alike, hA.mv X0.warmed.alike hh0, s1.there X0.warmed.alike hh0, hz, l0, by omega, l2, fun i hi => by rw [Nat.zero_add]; exact hp i hi⟩)
  have e0 := Got.mv _ s₁ s _ _ hh0.symm (Vm.Alike.refl _) rfl E3
  obtain rfl := e0.1
  have c4 : Steps p.tables e below (s₁.setTop (entryFrame m #[.ref a, .ref b] 2)) (T3.setTop (mkF m 9 #[.val (.ref a), .val (.ref b)] [])) := g3
  exact ⟨T3, none, _, _, _, X3, by simp, rfl, by omega, (fun _ => rfl), e0, fun fs hl => c4.trans (X3.returnOut hexec hret (hb hbytes d9) hl)⟩
theorem pays {l : Launch} {R : Room} {p : Program} {e : Env} {below : List Frame} {s : State} {sargs : Array Value} {len W : Nat} (a : Addr) (D : Cell) (fV fC : Field) (b : Addr) (A : Cell) (z : Int32) (htab : tab.before sargs s = true) (hfr : 4 ≤ R.frames) (hlo : W + 65 ≤ R.locals) :
    Back l R p e below s sargs yN len W (fun A₁ a₁ => A₁.cells + 1 ≤ R.cells ∧ A₁.slots + A.slots.size ≤ R.slots ∧ P a D fV fC b A z a₁ A₁.U) (fun A₁ _ v₁ B₁ => E a D fV fC A v₁ A₁.U B₁.U ∧ B₁.locs = A₁.locs ++ [⟨a, fC.slot⟩, ⟨a, fV.slot⟩] ∧ B₁.cells = A₁.cells + 1 ∧ B₁.slots = A₁.slots + A.slots.size) :=
  (law l a D fV fC b A z).pays htab hfr (by omega)
end New1
/-- the byte, read back as charAt reads it, is the char -/
theorem lo8_mask {x : Int32} (h0 : ¬ x < 0) (h1 : ¬ 255 < x) : lo8 x &&& 255 = x := by
  have t : ∀ k : Fin 256, lo8 (Int32.ofNat k.val) &&& 255 = Int32.ofNat k.val := by decide +kernel
  rw [Int32.lt_iff_toInt_lt] at h0 h1
  have e0 : (0 : Int32).toInt = 0 := rfl
  have e1 : (255 : Int32).toInt = 255 := rfl
  obtain ⟨k, hk⟩ : ∃ k : Nat, x.toInt = k := ⟨x.toInt.toNat, by omega⟩
  have hx : x = Int32.ofNat k := Int32.toInt_inj.mp (by rw [hk, Int32.toInt_ofNat_small (by omega)])
  rw [hx]
  exact t ⟨k, by omega⟩
end StrChars
namespace StrChars.Road
open Jvm Sem ClassFile Op Lib Jvm.Stand Jvm.Free Jvm.Free.XT
open Jvm.Lib.Cold (StaticIs)
abbrev ST : String := "java/lang/String"
/-- every table word that New1's law asks, flat -/
abbrev words : List Jvm.Cond := [.code New1.yN New1.yB 2 none, .initialized ST, .methodLink ST 27 New4.yN, .instanceMethod New4.yN,
  .code New4.yN New4.yB 6 none, .fieldLink ST 38 ST "COMPACT_STRINGS" "Z", .laysFinal ST ST "value" "[B", .fieldLink ST 9 ST "value" "[B", .laysFinal ST ST "coder" "B", .fieldLink ST 15 ST "coder" "B",
  .methodLink ST 1 Lib.objectInit, .instanceMethod Lib.objectInit, .code Lib.objectInit ⟨#[0xb1]⟩ 1 none, .methodLink ST 177 Cmp3.yN, .static Cmp3.yN, .methodLink ST 47 CodL.yN, .static CodL.yN,
  .code Cmp3.yN Cmp3.yB 6 (some (.array .byte)), .initialized U16, .arrayClass .byte, .methodLink U16 115 Cmp5.yN, .static Cmp5.yN, .code Cmp5.yN Cmp5.yB 7 (some .int), .code CodL.yN CodL.yB 2 (some .byte)]
theorem tab_of {a : Array Value} {s : State} (h : ∀ w ∈ words, w.before a s = true) : New1.tab.before a s = true := by
  have h5 : Cmp5.tab.before a s = true := unparts (wk h (.code Cmp5.yN Cmp5.yB 7 (some .int))) (wks h (.initialized Cmp5.yN.cls :: Cmp5.site))
  have hc : CodL.tab.before a s = true := unparts (wk h (.code CodL.yN CodL.yB 2 (some .byte))) (wks h (.initialized CodL.yN.cls :: CodL.site))
  have q5 : ∀ w ∈ Cmp5.tab :: words, w.before a s = true := fun w hw => (List.mem_cons.mp hw).elim (fun e => e ▸ h5) (h w)
  have h3 : Cmp3.tab.before a s = true := unparts (wk q5 (.code Cmp3.yN Cmp3.yB 6 (some (.array .byte)))) (wks q5 (.initialized Cmp3.yN.cls :: Cmp3.site))
  have q3 : ∀ w ∈ Cmp3.tab :: CodL.tab :: words, w.before a s = true := fun w hw => (List.mem_cons.mp hw).elim (fun e => e ▸ h3) fun hw => (List.mem_cons.mp hw).elim (fun e => e ▸ hc) (h w)
  have h4 : New4.tab.before a s = true := unparts (wk q3 (.code New4.yN New4.yB 6 none)) (wks q3 (.initialized New4.yN.cls :: New4.site))
  have q4 : ∀ w ∈ New4.tab :: words, w.before a s = true := fun w hw => (List.mem_cons.mp hw).elim (fun e => e ▸ h4) (h w)
  exact unparts (wk q4 (.code New1.yN New1.yB 2 none)) (wks q4 (.initialized New1.yN.cls :: New1.site))
/-- the words ride from the start Z to the walk's own state -/
theorem moved {Z s : State} {a0 args : Array Value} (hZ : Z.Warmed39 s.vm) (hw : ∀ d ∈ words, d.before a0 Z = true) : ∀ d ∈ words, d.before args s = true := fun d hd => by
  have q := hw d hd
  have t : ∀ d ∈ words, d = .arrayClass .byte ∨ (d.onTables && d.keepsFace) = true := by decide +kernel
  rcases t d hd with rfl | t
  · exact RoadKit.mvA hZ q
  · exact RoadKit.mv hZ q t
/-- WHAT COMES BACK, over the tables of the start Z: h the heap at the call, h' behind it -/
def Q (Z : State) (x : Addr) (A : Cell) (h : Heap) (v : Option Value) (h' : Heap) (L : List Loc) : Prop := v = none ∧ (∀ y ∈ L, y.base = x) ∧ RoadKit.Keep h h' [x] ∧ h'.size = h.size + 1 ∧ RoadKit.Exa Z h' x ST ∧ RoadKit.Fld Z h' x ST "value" "[B" (.ref h.size) ∧ RoadKit.Fld Z h' x ST "coder" "B" (.int 0) ∧
  (∃ V : Cell, RoadKit.Arr Z h' h.size V .byte ∧ V.vm = .none ∧ Z.vm.findClass "[B" = some V.cls ∧ V.slots.size = A.slots.size ∧ ∀ j, j < A.slots.size → V.slots[j]? = some (.int (lo8 (cv A j)))) ∧
  ∀ (O n d : String) (w : Value), RoadKit.Fld Z h x O n d w → RoadKit.slotOf Z O n d ≠ RoadKit.slotOf Z ST "value" "[B" → RoadKit.slotOf Z O n d ≠ RoadKit.slotOf Z ST "coder" "B" → RoadKit.Fld Z h' x O n d w
/-- **new String(chars) AT A CALL, IN THE ROAD'S FORM**: for specialBack behind newO: x the fresh String, b the char[] with the cell A -/
theorem back {p : Program} {l : Launch} {e : Env} {R : Room} {s : State} {args : Array Value} {below : List Frame} {len W : Nat} {Z : State} {a0 : Array Value} {h : Heap} (hZ : Z.Warmed39 s.vm) (hw : ∀ d ∈ words, d.before a0 Z = true) {kI : Nat} (wi : (Jvm.Cond.instantiable ST kI).before a0 Z = true)
    {x b : Addr} {A : Cell} {z : Int32} {v0 c0 : Value} (E : RoadKit.Exa Z h x ST) (V : RoadKit.Fld Z h x ST "value" "[B" v0) (C : RoadKit.Fld Z h x ST "coder" "B" c0) (K : RoadKit.Arr Z h b A .char) (hty : Typed .char A) (S : RoadKit.Sta Z h ST "COMPACT_STRINGS" "Z" (.int z)) (hz : ¬ z = 0)
    (l0 : 0 < A.slots.size) (l2 : A.slots.size ≤ 536870912) (hp : ∀ i, i < A.slots.size → ¬ 255 < cv A i) (hfr : 4 ≤ R.frames) (hlo : W + 65 ≤ R.locals) :
    Back l R p e below s args New1.yN len W (fun P a => a = #[.ref x, .ref b] ∧ P.U.heap = h ∧ P.cells + 1 ≤ R.cells ∧ P.slots + A.slots.size ≤ R.slots)
      (fun P _ v B => ∃ L, Q Z x A h v B.U.heap L ∧ B.locs = P.locs ++ L ∧ B.cells = P.cells + 1 ∧ B.slots = P.slots + A.slots.size) := by
  intro m meth c P g ig mk a X hg hsize hdg hW hn hp'
  obtain ⟨rfl, rfl, r1, r2⟩ := hp'
  have al : Z.vm.Alike P.U.vm := hZ.alike.trans X.warmed.alike
  obtain ⟨D, cfV, kV, iV, fV, hD, gV, stV, knV, obV, asV, slV⟩ := id V
  obtain ⟨D', cfC, kC, iC, fC, hD', gC, stC, -, -, asC, slC⟩ := id C
  cases hD.symm.trans hD'
  obtain ⟨D2, kD, e1, e2, e3, e4, e5⟩ := id E
  cases hD.symm.trans e1
  obtain ⟨c2, k2, i1, i2, i3, -⟩ := Cond.instantiable_spec wi
  cases e2.symm.trans i1
  cases e3.symm.trans i2
  obtain ⟨kU, u1, u2⟩ := al.2.2 _ _ e3
  have hB : Blank ST x D P.U := ⟨hD, ⟨knV, fun q hq => by rw [hq] at obV; cases obV⟩, by rw [al.findClass]; exact e2, kU, u1, by rw [u2]; exact i3, by rw [u2]; exact e5 i3⟩
  have F1 : Found ST "value" "[B" fV P.U := ⟨SBG.found_only al ⟨cfV, kV, iV, gV⟩, stV⟩
  have F2 : Found ST "coder" "B" fC P.U := ⟨SBG.found_only al ⟨cfC, kC, iC, gC⟩, stC⟩
  have hA : Ch b A P.U := ⟨⟨K.1, State.isArrayOf_alike al K.2.1, K.2.2, by omega⟩, hty⟩
  have hS : StaticIs P.U ST "COMPACT_STRINGS" "Z" (.int z) := by
    obtain ⟨cfS, iS, kS, fS, st, cS, t1, t2, t3, t4, t5, t6, t7⟩ := S
    exact StaticIs.there (s := { Z with heap := P.U.heap }) ⟨cfS, iS, kS, fS, st, cS, t1, t2, t3, t4, t5, (fun q => by rw [q] at t6; cases t6), t7⟩ al rfl
  obtain ⟨v, B, X', ⟨⟨hv, E', V', q1, q2, q3, q4, q5, q6, q7, q8, q9, q10, q11⟩, hl, hc, hs⟩, st⟩ := New1.pays x D fV fC b A z (tab_of (moved hZ hw)) hfr hlo m meth c P g ig mk _ X hg hsize hdg hW hn ⟨r1, r2, rfl, hB, F1, F2, hA, hS, hz, l0, l2, hp⟩
  have al' : Z.vm.Alike B.U.vm := hZ.alike.trans X'.warmed.alike
  have hsz : E'.slots.size = D.slots.size := by
    obtain ⟨-, -, -, kB, w1, w2, w3⟩ := q1
    obtain ⟨kB', y1, y2⟩ := al'.2.2 _ _ e3
    rw [q2.2.1] at w1
    cases w1.symm.trans y1
    rw [w3, e5 i3, y2]
  refine ⟨v, B, X', ⟨_, ⟨hv, ?_, ⟨by omega, fun y cy hy hn' => q10 y cy (by simpa using hn') hy, fun y cy hy => ?_⟩, q11, ⟨E', _, q1.1, by rw [q2.2.1]; exact e2, by rw [q2.2.1]; exact e3, by rw [q2.1]; exact obV, fun _ => by rw [hsz]; exact e5 i3⟩,
    ⟨E', cfV, kV, iV, fV, q1.1, gV, stV, by rw [q2.1]; exact knV, by rw [q2.1]; exact obV, by rw [q2.2.1]; exact asV, q3⟩, ⟨E', cfC, kC, iC, fC, q1.1, gC, stC, by rw [q2.1]; exact knV, by rw [q2.1]; exact obV, by rw [q2.2.1]; exact asC, q4⟩,
    ⟨V', ⟨q5.1, State.isArrayOf_alike al'.symm q5.2.1, q5.2.2.1⟩, q6, by rw [← al'.findClass]; exact q7, q8, fun j hj => by have := q9 j hj; rwa [Nat.zero_add] at this⟩, fun O n d w F n1 n2 => ?_⟩, hl, hc, hs⟩, st⟩
  · intro y hy
    simp only [List.mem_cons, List.not_mem_nil, or_false] at hy
    rcases hy with rfl | rfl <;> rfl
  · by_cases q : y = x
    · subst q
      cases hD.symm.trans hy
      exact ⟨E', q1.1, q2.2.1, q2.1, hsz⟩
    · exact ⟨cy, q10 y cy q hy, rfl, rfl, rfl⟩
  · obtain ⟨D3, cf, k, i, f, g1, g2, g3, g4, g5, g6, g7⟩ := F
    cases hD.symm.trans g1
    simp only [RoadKit.slotOf, g2, gV, gC, Option.map_some, Option.getD_some] at n1 n2
    exact ⟨E', cf, k, i, f, q1.1, g2, g3, by rw [q2.1]; exact g4, by rw [q2.1]; exact g5, by rw [q2.2.1]; exact g6, by rw [q2.2.2 f.slot (by simp [n1, n2])]; exact g7⟩
end StrChars.Road
namespace StrChars.Road
open Jvm Sem ClassFile Op Lib Jvm.Stand Jvm.Free Jvm.Free.XT
/-- WHAT COMES BACK, the byte[] as a list of values -/
def QA (Z : State) (x : Addr) (zn : Int32) (cs : List Int32) (h : Heap) (v : Option Value) (h' : Heap) (L : List Loc) : Prop := v = none ∧ (∀ y ∈ L, y.base = x) ∧ RoadKit.Keep h h' [x] ∧ h'.size = h.size + 1 ∧ RoadKit.Exa Z h' x ST ∧ RoadKit.Fld Z h' x ST "value" "[B" (.ref h.size) ∧ RoadKit.Fld Z h' x ST "coder" "B" (.int 0) ∧
  (∃ kb, Z.vm.findClass "[B" = some kb ∧ RoadKit.Arv Z h' h.size kb .byte zn (cs.map fun c => .int (lo8 c)) (.int 0)) ∧
  ∀ (O n d : String) (w : Value), RoadKit.Fld Z h x O n d w → RoadKit.slotOf Z O n d ≠ RoadKit.slotOf Z ST "value" "[B" → RoadKit.slotOf Z O n d ≠ RoadKit.slotOf Z ST "coder" "B" → RoadKit.Fld Z h' x O n d w
/-- **new String(chars) AT A CALL, THE ARRAYS AS LISTS**: the char[] at b holds cs, not empty, no char above 255 -/
theorem backArv {p : Program} {l : Launch} {e : Env} {R : Room} {s : State} {args : Array Value} {below : List Frame} {len W : Nat} {Z : State} {a0 : Array Value} {h : Heap} (hZ : Z.Warmed39 s.vm) (hw : ∀ d ∈ words, d.before a0 Z = true) {kI : Nat} (wi : (Jvm.Cond.instantiable ST kI).before a0 Z = true)
    {x b : Addr} {k : ClassId} {zn z : Int32} {cs : List Int32} {dv v0 c0 : Value} (E : RoadKit.Exa Z h x ST) (V : RoadKit.Fld Z h x ST "value" "[B" v0) (C : RoadKit.Fld Z h x ST "coder" "B" c0) (K : RoadKit.Arv Z h b k .char zn (cs.map Value.int) dv) (S : RoadKit.Sta Z h ST "COMPACT_STRINGS" "Z" (.int z)) (hz : ¬ z = 0)
    (hlen : zn.toNatClampNeg = cs.length) (h0 : 0 < cs.length) (hbig : cs.length ≤ 536870912) (hall : ∀ c ∈ cs, ¬ 255 < c) (hfr : 4 ≤ R.frames) (hlo : W + 65 ≤ R.locals) :
    Back l R p e below s args New1.yN len W (fun P a => a = #[.ref x, .ref b] ∧ P.U.heap = h ∧ P.cells + 1 ≤ R.cells ∧ P.slots + cs.length ≤ R.slots)
      (fun P _ v B => ∃ L, QA Z x zn cs h v B.U.heap L ∧ B.locs = P.locs ++ L ∧ B.cells = P.cells + 1 ∧ B.slots = P.slots + cs.length) := by
  obtain ⟨A, K1, K2, K3, K4, K5, K6⟩ := K
  have e : A.slots.size = cs.length := K3.trans hlen
  have hat : ∀ (i : Nat) (hi : i < cs.length), A.slots[i]? = some (.int cs[i]) := fun i hi => by rw [K5 i (by omega)]; simp [List.getD_eq_getElem?_getD, hi]
  have hcv : ∀ (i : Nat) (hi : i < cs.length), cv A i = cs[i] := fun i hi => by unfold cv; rw [hat i hi]
  have hty : Typed .char A := fun i v hv => by
    have hi : i < A.slots.size := (Array.getElem?_eq_some_iff.mp hv).1
    have q := K5 i hi
    rw [hv] at q
    rw [Option.some.inj q]
    exact K6 i hi
  refine Back.mono (back hZ hw wi E V C K1 hty S hz (by omega) (by omega) (fun i hi => by rw [hcv i (by omega)]; exact hall _ (List.getElem_mem _)) hfr hlo) (fun P a hp => ⟨hp.1, hp.2.1, hp.2.2.1, by rw [e]; exact hp.2.2.2⟩) (fun P a v B hp hq => ?_)
  obtain ⟨L, ⟨q1, q2, q3, q4, q5, q6, q7, ⟨V', v1, v2, v3, v4, v5⟩, q9⟩, hl, hc, hs⟩ := hq
  refine ⟨L, ⟨q1, q2, q3, q4, q5, q6, q7, ⟨V'.cls, v3, V', v1, rfl, by rw [v4, e, hlen], K4, fun i hi => ?_, fun i hi => ?_⟩, q9⟩, hl, hc, by rw [hs, e]⟩
  · have hi' : i < cs.length := by omega
    rw [v5 i (by omega), hcv i hi']; simp [List.getD_eq_getElem?_getD, hi']
  · have hi' : i < cs.length := by omega
    simp only [List.getD_eq_getElem?_getD, List.getElem?_map, List.getElem?_eq_getElem hi', Option.map_some, Option.getD_some]
    exact fits_lo8 _
end StrChars.Road
namespace StrChars.Road
open Jvm Sem ClassFile Op Lib Jvm.Stand Jvm.Free Jvm.Free.XT
/-- WHAT COMES BACK, in the writer's own shape -/
def QV (Z : State) (x : Addr) (N : Int32) (bs : List Int32) (h : Heap) (n0 : Nat) (v : Option Value) (h' : Heap) (L : List Loc) : Prop := v = none ∧ RoadKit.Fr n0 L ∧ RoadKit.Keep h h' [x] ∧ RoadKit.Exa Z h' x ST ∧ RoadKit.Fld Z h' x ST "coder" "B" (.int 0) ∧
  ∃ (t : Addr) (kb : ClassId), n0 ≤ t ∧ h.size ≤ t ∧ ¬ t = x ∧ RoadKit.Fld Z h' x ST "value" "[B" (.ref t) ∧ RoadKit.Arv Z h' t kb .byte N (bs.map Value.int) (.int 0)
/-- **new String(chars) AT A CALL, FOR THE WRITER**: a char[] of n known ints, each 0 to 255 -/
theorem backV {p : Program} {l : Launch} {e : Env} {R : Room} {s : State} {args : Array Value} {below : List Frame} {len W : Nat} {Z : State} {a0 : Array Value} {h : Heap} (hZ : Z.Warmed39 s.vm) (hw : ∀ d ∈ words, d.before a0 Z = true) {kI : Nat} (wi : (Jvm.Cond.instantiable ST kI).before a0 Z = true)
    {x b : Addr} {kC : ClassId} {cs bs : List Int32} {d v0 c0 : Value} {z N : Int32} {n n0 : Nat} (hx0 : n0 ≤ x) (hh0 : n0 ≤ h.size) (E : RoadKit.Exa Z h x ST) (V : RoadKit.Fld Z h x ST "value" "[B" v0) (C : RoadKit.Fld Z h x ST "coder" "B" c0) (K : RoadKit.Arv Z h b kC .char N (cs.map Value.int) d) (S : RoadKit.Sta Z h ST "COMPACT_STRINGS" "Z" (.int z)) (hz : ¬ z = 0)
    (hn : cs.length = n) (hN : N = Int32.ofNat n) (l0 : 0 < n) (l2 : n ≤ 4000) (hp : ∀ c ∈ cs, ¬ c < 0 ∧ ¬ (255 : Int32) < c) (hb : bs = cs.map (fun c => c.toInt8.toInt32)) (hfr : 4 ≤ R.frames) (hlo : W + 65 ≤ R.locals) :
    Back l R p e below s args (⟨"java/lang/String", "<init>", "([C)V"⟩ : MethodName) len W (fun P a => a = #[.ref x, .ref b] ∧ P.U.heap = h ∧ P.cells + 1 ≤ R.cells ∧ P.slots + n ≤ R.slots)
      (fun P _ v B => ∃ L, QV Z x N bs h n0 v B.U.heap L ∧ B.locs = P.locs ++ L ∧ B.cells = P.cells + 1 ∧ B.slots = P.slots + n) := by
  subst hn hN hb
  refine Back.mono (backArv hZ hw wi E V C K S hz (n32 (by omega)) l0 (by omega) (fun c hc => (hp c hc).2) hfr hlo) (fun P a hp => hp) (fun P a v B hp hq => ?_)
  obtain ⟨L, ⟨q1, q2, q3, q4, q5, q6, q7, ⟨kb, v1, v2⟩, q9⟩, hl, hc, hs⟩ := hq
  exact ⟨L, ⟨q1, fun y hy => by rw [q2 y hy]; exact hx0, q3, q5, q7, h.size, kb, hh0, Nat.le_refl _, Nat.ne_of_gt E.lt, q6, by rw [List.map_map]; exact v2⟩, hl, hc, hs⟩
end StrChars.Road
namespace StrChars
open Jvm Sem ClassFile Op Lib Jvm.Stand Jvm.Free.XT Jvm.Free.ALB Jvm.Free.JM Jvm.Free
open Jvm.Lib.Cold (StaticIs)
def hi8 (x : Int32) : Int32 := lo8 (x >>> ((8 : Int32) &&& 31))
/-- what StringUTF16.getChar makes of two bytes -/
def pairCh (u v : Int32) : Int32 := (((u &&& 255) <<< ((0 : Int32) &&& 31)) ||| ((v &&& 255) <<< ((8 : Int32) &&& 31))).toUInt32.toUInt16.toUInt32.toInt32
theorem shr0 (c : Int32) : c >>> ((0 : Int32) &&& 31) = c := by
  have e : ((0 : Int32) &&& 31) = 0 := by decide
  rw [e]
  apply Int32.toBitVec_inj.mp
  rw [Int32.toBitVec_shiftRight]
  have e1 : ((0 : Int32).toBitVec.smod 32) = 0#32 := by decide
  rw [e1, BitVec.sshiftRight_eq']
  exact BitVec.sshiftRight_zero
theorem lo8_and (x : Int32) : (lo8 x &&& 255).toBitVec.toNat = x.toBitVec.toNat % 256 := by
  have h : (lo8 x).toBitVec = (x.toBitVec.signExtend 8).signExtend 32 := by rw [lo8, Int8.toBitVec_toInt32, Int32.toBitVec_toInt8]
  rw [Int32.toBitVec_and, BitVec.toNat_and, h]
  have e : ((x.toBitVec.signExtend 8).signExtend 32).toNat % 256 = x.toBitVec.toNat % 256 := by
    rw [BitVec.toNat_signExtend]
    have hlt := x.toBitVec.isLt
    simp only [BitVec.toNat_setWidth, BitVec.toNat_signExtend]
    split <;> split <;> omega
  rw [← e]
  exact Nat.and_two_pow_sub_one_eq_mod _ 8
theorem pair_says {c : Int32} (h0 : ¬ c < 0) (h1 : ¬ 65535 < c) : pairCh (lo8 c) (hi8 c) = c := by
  rw [Int32.lt_iff_toInt_lt] at h0 h1
  have e0 : (0 : Int32).toInt = 0 := rfl
  have e1 : (65535 : Int32).toInt = 65535 := rfl
  have hc : c.toInt = c.toBitVec.toNat := by
    have := c.toBitVec.isLt
    have e : c.toInt = c.toBitVec.toInt := rfl
    rw [e] at h0 h1
    rw [e]
    rw [BitVec.toInt_eq_toNat_cond] at h0 h1 ⊢
    split at h0 <;> split <;> omega
  have hn : c.toBitVec.toNat < 65536 := by omega
  have a1 := lo8_and c
  have a2 : (hi8 c &&& 255).toBitVec.toNat = c.toBitVec.toNat / 256 := by
    rw [hi8, lo8_and]
    have e : ((8 : Int32) &&& 31) = 8 := by decide
    rw [e, Int32.toBitVec_shiftRight]
    have e2 : ((8 : Int32).toBitVec.smod 32) = 8#32 := by decide
    rw [e2, BitVec.sshiftRight_eq', BitVec.toNat_sshiftRight_of_msb_false (by rw [BitVec.msb_eq_false_iff_two_mul_lt]; omega)]
    show c.toBitVec.toNat >>> 8 % 256 = _
    rw [Nat.shiftRight_eq_div_pow]
    omega
  unfold pairCh
  apply Int32.toBitVec_inj.mp
  apply BitVec.eq_of_toNat_eq
  have f0 : ((0 : Int32) &&& 31) = 0 := by decide
  have f8 : ((8 : Int32) &&& 31) = 8 := by decide
  rw [f0, f8]
  have g : (((lo8 c &&& 255) <<< (0 : Int32)) ||| ((hi8 c &&& 255) <<< (8 : Int32))).toBitVec.toNat = c.toBitVec.toNat := by
    rw [Int32.toBitVec_or, Int32.toBitVec_shiftLeft, Int32.toBitVec_shiftLeft]
    have s0 : ((0 : Int32).toBitVec.smod 32) = 0#32 := by decide
    have s8 : ((8 : Int32).toBitVec.smod 32) = 8#32 := by decide
    rw [s0, s8, BitVec.toNat_or]
    simp only [BitVec.shiftLeft_eq', BitVec.toNat_shiftLeft, a1, a2]
    show (c.toBitVec.toNat % 256) <<< 0 % 2 ^ 32 ||| (c.toBitVec.toNat / 256) <<< 8 % 2 ^ 32 = _
    rw [Nat.shiftLeft_zero, Nat.mod_eq_of_lt (show c.toBitVec.toNat % 256 < 2 ^ 32 by omega), Nat.mod_eq_of_lt (show (c.toBitVec.toNat / 256) <<< 8 < 2 ^ 32 by rw [Nat.shiftLeft_eq]; omega), Nat.or_comm, ← Nat.shiftLeft_add_eq_or_of_lt (by omega), Nat.shiftLeft_eq]
    omega
  show BitVec.toNat (((((lo8 c &&& 255) <<< (0 : Int32)) ||| ((hi8 c &&& 255) <<< (8 : Int32))).toBitVec.setWidth 16).setWidth 32) = _
  rw [BitVec.toNat_setWidth, BitVec.toNat_setWidth, g]
  omega
end StrChars
namespace StrChars
open Jvm Sem ClassFile Op Lib Jvm.Stand Jvm.Free.XT Jvm.Free.ALB Jvm.Free.JM Jvm.Free
open Jvm.Lib.Cold (StaticIs)
theorem shr1 {n : Nat} (h : 2 * n < 2 ^ 31) : Int32.ofNat (2 * n) >>> ((1 : Int32) &&& 31) = Int32.ofNat n := by
  have e : ((1 : Int32) &&& 31) = 1 := by decide
  rw [e]
  apply Int32.toBitVec_inj.mp
  rw [Int32.toBitVec_shiftRight]
  have e1 : ((1 : Int32).toBitVec.smod 32) = 1#32 := by decide
  have hm : (BitVec.ofNat 32 (2 * n)).toNat = 2 * n := by rw [BitVec.toNat_ofNat, Nat.mod_eq_of_lt (by omega)]
  rw [e1, BitVec.sshiftRight_eq']
  apply BitVec.eq_of_toNat_eq
  show ((BitVec.ofNat 32 (2 * n)).sshiftRight 1).toNat = (BitVec.ofNat 32 n).toNat
  rw [BitVec.toNat_sshiftRight_of_msb_false (by rw [BitVec.msb_eq_false_iff_two_mul_lt, hm]; omega), hm, BitVec.toNat_ofNat, Nat.shiftRight_eq_div_pow]
  omega
/-- charAt's cast of a byte read back -/
def chr8 (u : Int32) : Int32 := (u &&& 255).toUInt32.toUInt16.toUInt32.toInt32
theorem chr8_lo8 {c : Int32} (h0 : ¬ c < 0) (h1 : ¬ 255 < c) : chr8 (lo8 c) = c := by
  have t : ∀ k : Fin 256, (Int32.ofNat k.val).toUInt32.toUInt16.toUInt32.toInt32 = Int32.ofNat k.val := by decide +kernel
  unfold chr8
  rw [lo8_mask h0 h1]
  rw [Int32.lt_iff_toInt_lt] at h0 h1
  have e0 : (0 : Int32).toInt = 0 := rfl
  have e1 : (255 : Int32).toInt = 255 := rfl
  obtain ⟨k, hk⟩ : ∃ k : Nat, c.toInt = k := ⟨c.toInt.toNat, by omega⟩
  have hx : c = Int32.ofNat k := Int32.toInt_inj.mp (by rw [hk, Int32.toInt_ofNat_small (by omega)])
  rw [hx]
  exact t ⟨k, by omega⟩
theorem narrow_ch {c : Int32} (h0 : ¬ c < 0) (h1 : ¬ 65535 < c) : narrow .char (.int c) = .int c := by
  have q : narrow .char (.int (pairCh (lo8 c) (hi8 c))) = .int (pairCh (lo8 c) (hi8 c)) := narrow_c _
  rwa [pair_says h0 h1] at q
/-- the array's cell V codes the n chars f 0 .. f (n - 1) by the coder cd, as the JDK does: coder 1 just where some char is above 255 -/
def Cod (cd : Int32) (n : Nat) (f : Nat → Int32) (V : Cell) : Prop := (cd = 0 ∧ V.slots.size = n ∧ ∀ j, j < n → V.slots[j]? = some (.int (lo8 (f j))) ∧ ¬ 255 < f j) ∨ (cd = 1 ∧ V.slots.size = 2 * n ∧ (∀ j, j < n → V.slots[2 * j]? = some (.int (lo8 (f j))) ∧ V.slots[2 * j + 1]? = some (.int (hi8 (f j)))) ∧ ∃ j, j < n ∧ 255 < f j)
theorem Cod.cd {cd : Int32} {n : Nat} {f : Nat → Int32} {V : Cell} (h : Cod cd n f V) : cd = 0 ∨ cd = 1 := h.imp (fun q => q.1) fun q => q.1
theorem Cod.len {cd : Int32} {n : Nat} {f : Nat → Int32} {V : Cell} (h : Cod cd n f V) (hs : V.slots.size < 2 ^ 31) : Int32.ofNat V.slots.size >>> (cd &&& 31) = Int32.ofNat n := by
  rcases h with ⟨rfl, h, -⟩ | ⟨rfl, h, -⟩
  · rw [shr0, h]
  · rw [h, shr1 (by omega)]
/-- **x is a String of the n chars f 0 .. f (n - 1)**, Latin-1 or UTF-16; its array at t has the cell V -/
def Txt (x t : Addr) (V : Cell) (cd : Int32) (n : Nat) (f : Nat → Int32) (U : State) : Prop := Exact "java/lang/String" x U ∧ Has x "java/lang/String" "value" "[B" (.ref t) U ∧ Has x "java/lang/String" "coder" "B" (.int cd) U ∧ XT.Arr .byte t V U ∧ Cod cd n f V ∧ ∀ j, j < n → ¬ f j < 0 ∧ ¬ 65535 < f j
theorem Txt.mv {x t : Addr} {V : Cell} {cd : Int32} {n : Nat} {f : Nat → Int32} {U U' : State} (h : Txt x t V cd n f U) (hal : U.vm.Alike U'.vm) (hh : U'.heap = U.heap) : Txt x t V cd n f U' := ⟨h.1.mv hal hh, h.2.1.mv hal hh, h.2.2.1.mv hal hh, h.2.2.2.1.mv hal hh, h.2.2.2.2⟩
namespace Cdr
def yN : MethodName := ⟨"java/lang/String", "coder", "()B"⟩
abbrev yB : ByteArray := jdk_42_method_152_code
theorem d0 : decode yB 0 = .ok (.getstatic 38, 3) := by decide +kernel
theorem d3 : decode yB 3 = .ok (.ifCond (.eq) 10, 3) := by decide +kernel
theorem d6 : decode yB 6 = .ok (.aload_n 0, 1) := by decide +kernel
theorem d7 : decode yB 7 = .ok (.getfield 15, 3) := by decide +kernel
theorem d10 : decode yB 10 = .ok (.goto 4, 3) := by decide +kernel
theorem d14 : decode yB 14 = .ok (.ireturn, 1) := by decide +kernel
def site : List Cond := [.fieldLink "java/lang/String" 38 "java/lang/String" "COMPACT_STRINGS" "Z", .fieldLink "java/lang/String" 15 "java/lang/String" "coder" "B"]
def tab : Cond := tabOf yN yB 1 (some .byte) site
def P (x : Addr) (cd z : Int32) (args : Array Value) (s : State) : Prop := args = #[.ref x] ∧ Has x "java/lang/String" "coder" "B" (.int cd) s ∧ (cd = 0 ∨ cd = 1) ∧ StaticIs s "java/lang/String" "COMPACT_STRINGS" "Z" (.int z) ∧ ¬ z = 0
def E (cd : Int32) (r : Option Value) (s u : State) : Prop := XT.PureE (some (.int cd)) r s u
theorem law (l : Launch) (x : Addr) (cd z : Int32) : Law l yN 1 0 0 0 yB 1 (some .byte) site (P x cd z) (E cd) [] 0 0 := by
  refine Law.of_walk (plainFor_of_name (by decide +kernel)) (by decide +kernel) (by decide +kernel) (by decide) (fun _ _ h => by rw [h.1]; rfl) (fun _ U U' hal hh h => ⟨h.1, h.2.1.mv hal hh, h.2.2.1, h.2.2.2.1.there hal hh, h.2.2.2.2⟩) (fun r U U' V V' h1 hal h2 h => XT.PureE.mv r U U' V V' h1 hal h2 h) ?_
  intro p e s m args below meth c s₁ X0 hexec hbytes hml hret hlk hnm hown hh0 W hP
  obtain ⟨rfl, hx, hc, s1, hz⟩ := hP
  have c1 : Steps p.tables e below (s₁.setTop (entryFrame m #[.ref x] 1)) (s₁.setTop (mkF m 0 #[.val (.ref x)] [])) := entry rfl
  obtain ⟨T2, X2, q2, st2⟩ := X0.sget hexec hown (wk W (.fieldLink "java/lang/String" 38 "java/lang/String" "COMPACT_STRINGS" "Z")) s1 (fun _ _ h => by rw [hh0]; exact h) (g := (mkF m 0 #[.val (.ref x)] [])) rfl (hb hbytes d0)
  have hh2 := q2.trans hh0
  have c3 : Steps p.tables e below (s₁.setTop (entryFrame m #[.ref x] 1)) (T2.setTop (mkF m 7 #[.val (.ref x)] [.ref x])) := (c1.trans (st2 _ (Steps.refl _))).trans (by
    refine XS.ifNo X2.here hexec rfl (hb hbytes d3) rfl (i0_eq_f hz) ?_
    refine XS.aloadN X2.here hexec rfl (hb hbytes d6) rfl rfl ?_
    exact Steps.refl _)
  obtain ⟨T4, X4, q4, st4⟩ := X2.hget hexec hown (wk W (.fieldLink "java/lang/String" 15 "java/lang/String" "coder" "B")) (hx.mv X2.warmed.alike hh2) (g := (mkF m 7 #[.val (.ref x)] [.ref x])) rfl (rest := []) rfl (hb hbytes d7)
  have c5 : Steps p.tables e below (s₁.setTop (entryFrame m #[.ref x] 1)) (T4.setTop (mkF m 14 #[.val (.ref x)] [.int cd])) := (c3.trans (st4 _ (Steps.refl _))).trans (by
    refine XS.goto X4.here hexec rfl (pc0 := 10) rfl (hb hbytes d10) (by decide) rfl ?_
    exact Steps.refl _)
  exact ⟨T4, some (.int cd), _, _, _, X4, rfl, rfl, rfl, (fun h => by cases h), ⟨rfl, q4.trans hh2⟩, fun fs hl => c5.trans (X4.ireturnOut hexec hret (by rcases hc with rfl | rfl <;> rfl) (Or.inr (Or.inr (Or.inl rfl))) (hb hbytes d14) hl)⟩
end Cdr
namespace Len
def yN : MethodName := ⟨"java/lang/String", "length", "()I"⟩
abbrev yB : ByteArray := jdk_42_method_54_code
theorem d0 : decode yB 0 = .ok (.aload_n 0, 1) := by decide +kernel
theorem d1 : decode yB 1 = .ok (.getfield 9, 3) := by decide +kernel
theorem d4 : decode yB 4 = .ok (.arraylength, 1) := by decide +kernel
theorem d5 : decode yB 5 = .ok (.aload_n 0, 1) := by decide +kernel
theorem d6 : decode yB 6 = .ok (.invokevirtual 335, 3) := by decide +kernel
theorem d9 : decode yB 9 = .ok (.ishr, 1) := by decide +kernel
theorem d10 : decode yB 10 = .ok (.ireturn, 1) := by decide +kernel
def site : List Cond := [.fieldLink "java/lang/String" 9 "java/lang/String" "value" "[B", Cdr.tab] ++ virtW "java/lang/String" 335 "java/lang/String" Cdr.yN Cdr.yN
def tab : Cond := tabOf yN yB 1 (some .int) site
def P (x t : Addr) (V : Cell) (cd : Int32) (n : Nat) (f : Nat → Int32) (z : Int32) (args : Array Value) (s : State) : Prop := args = #[.ref x] ∧ Txt x t V cd n f s ∧ StaticIs s "java/lang/String" "COMPACT_STRINGS" "Z" (.int z) ∧ ¬ z = 0
def E (n : Nat) (r : Option Value) (s u : State) : Prop := XT.PureE (some (.int (Int32.ofNat n))) r s u
/-- length() of a String of n chars, in either coding -/
theorem law (l : Launch) (x t : Addr) (V : Cell) (cd : Int32) (n : Nat) (f : Nat → Int32) (z : Int32) : Law l yN 1 0 1 13 yB 1 (some .int) site (P x t V cd n f z) (E n) [] 0 0 := by
  refine Law.of_walk (plainFor_of_name (by decide +kernel)) (by decide +kernel) (by decide +kernel) (by decide) (fun _ _ h => by rw [h.1]; rfl) (fun _ U U' hal hh h => ⟨h.1, h.2.1.mv hal hh, h.2.2.1.there hal hh, h.2.2.2⟩) (fun r U U' V V' h1 hal h2 h => XT.PureE.mv r U U' V V' h1 hal h2 h) ?_
  intro p e s m args below meth c s₁ X0 hexec hbytes hml hret hlk hnm hown hh0 W hP
  obtain ⟨rfl, hx, s1, hz⟩ := hP
  have v31 := hx.2.2.2.1.2.2.2
  have c1 : Steps p.tables e below (s₁.setTop (entryFrame m #[.ref x] 1)) (s₁.setTop (mkF m 1 #[.val (.ref x)] [.ref x])) := Steps.trans (entry rfl) (by
    show Steps p.tables e below (s₁.setTop (mkF m 0 #[.val (.ref x)] [])) _
    refine XS.aloadN X0.here hexec rfl (hb hbytes d0) rfl rfl ?_
    exact Steps.refl _)
  obtain ⟨T2, X2, q2, st2⟩ := X0.hget hexec hown (wk W (.fieldLink "java/lang/String" 9 "java/lang/String" "value" "[B")) (hx.mv X0.warmed.alike hh0).2.1 (g := (mkF m 1 #[.val (.ref x)] [.ref x])) rfl (rest := []) rfl (hb hbytes d1)
  have hh2 := q2.trans hh0
  have hx2 := hx.mv X2.warmed.alike hh2
  have c3 : Steps p.tables e below (s₁.setTop (entryFrame m #[.ref x] 1)) (T2.setTop (mkF m 6 #[.val (.ref x)] [.ref x, .int (Int32.ofNat V.slots.size)])) := (c1.trans (st2 _ (Steps.refl _))).trans (by
    refine X2.alen hexec hx2.2.2.2.1 rfl rfl (hb hbytes d4) ?_
    refine XS.aloadN X2.here hexec rfl (hb hbytes d5) rfl rfl ?_
    exact Steps.refl _)
  obtain ⟨v4, T4, X4, E4, g4⟩ := X2.callV hexec (Cdr.law l x cd z) hown (wks W (virtW "java/lang/String" 335 "java/lang/String" Cdr.yN Cdr.yN)) rfl (by decide) (wk W Cdr.tab) (W := 1) (Nat.le_of_ble_eq_true rfl) (Nat.le_of_ble_eq_true rfl) (Nat.le_refl _) (Nat.le_refl _) (hx2.1.fc X2.warmed.alike) hx2.1.is (g := (mkF m 6 #[.val (.ref x)] [.ref x, .int (Int32.ofNat V.slots.size)])) rfl (by rw [hml]; rfl) c3 (argsL := []) (rest := [.int (Int32.ofNat V.slots.size)]) rfl rfl (by show 2 * 0 + (1 + 0) ≤ _; decide) (hb hbytes d6) (⟨rfl, hx2.2.2.1, hx.2.2.2.2.1.cd, s1.there X2.warmed.alike hh2, hz⟩)
  obtain ⟨rfl, q4⟩ := E4
  have c5 : Steps p.tables e below (s₁.setTop (entryFrame m #[.ref x] 1)) (T4.setTop (mkF m 10 #[.val (.ref x)] [.int (Int32.ofNat V.slots.size >>> (cd &&& 31))])) := Steps.trans g4 (by
    refine ishr X4.here hexec rfl (hb hbytes d9) rfl ?_
    exact Steps.refl _)
  rw [hx.2.2.2.2.1.len v31] at c5
  exact ⟨T4, some (.int (Int32.ofNat n)), _, _, _, X4, rfl, rfl, rfl, (fun h => by cases h), ⟨rfl, q4.trans hh2⟩, fun fs hl => c5.trans (X4.ireturnOut hexec hret rfl (Or.inl rfl) (hb hbytes d10) hl)⟩
theorem pays {l : Launch} {R : Room} {p : Program} {e : Env} {below : List Frame} {s : State} {sargs : Array Value} {len W : Nat} (x t : Addr) (V : Cell) (cd : Int32) (n : Nat) (f : Nat → Int32) (z : Int32) (htab : tab.before sargs s = true) (hfr : 2 ≤ R.frames) (hlo : W + 25 ≤ R.locals) :
    Back l R p e below s sargs yN len W (fun A₁ a₁ => A₁.cells + 0 ≤ R.cells ∧ A₁.slots + 0 ≤ R.slots ∧ P x t V cd n f z a₁ A₁.U) (fun A₁ _ v₁ B₁ => E n v₁ A₁.U B₁.U ∧ B₁.locs = A₁.locs ++ [] ∧ B₁.cells = A₁.cells + 0 ∧ B₁.slots = A₁.slots + 0) :=
  (law l x t V cd n f z).pays htab hfr (by omega)
end Len
namespace IsL
def yN : MethodName := ⟨"java/lang/String", "isLatin1", "()Z"⟩
abbrev yB : ByteArray := jdk_42_method_154_code
theorem d0 : decode yB 0 = .ok (.getstatic 38, 3) := by decide +kernel
theorem d3 : decode yB 3 = .ok (.ifCond (.eq) 14, 3) := by decide +kernel
theorem d6 : decode yB 6 = .ok (.aload_n 0, 1) := by decide +kernel
theorem d7 : decode yB 7 = .ok (.getfield 15, 3) := by decide +kernel
theorem d10 : decode yB 10 = .ok (.ifCond (.ne) 7, 3) := by decide +kernel
theorem d13 : decode yB 13 = .ok (.iconst 1, 1) := by decide +kernel
theorem d14 : decode yB 14 = .ok (.goto 4, 3) := by decide +kernel
theorem d17 : decode yB 17 = .ok (.iconst 0, 1) := by decide +kernel
theorem d18 : decode yB 18 = .ok (.ireturn, 1) := by decide +kernel
def site : List Cond := [.fieldLink "java/lang/String" 38 "java/lang/String" "COMPACT_STRINGS" "Z", .fieldLink "java/lang/String" 15 "java/lang/String" "coder" "B"]
def tab : Cond := tabOf yN yB 1 (some .boolean) site
def P (x : Addr) (cd z : Int32) (args : Array Value) (s : State) : Prop := args = #[.ref x] ∧ Has x "java/lang/String" "coder" "B" (.int cd) s ∧ (cd = 0 ∨ cd = 1) ∧ StaticIs s "java/lang/String" "COMPACT_STRINGS" "Z" (.int z) ∧ ¬ z = 0
def E (cd : Int32) (r : Option Value) (s u : State) : Prop := XT.PureE (some (.int (1 - cd))) r s u
theorem law (l : Launch) (x : Addr) (cd z : Int32) : Law l yN 1 0 0 0 yB 1 (some .boolean) site (P x cd z) (E cd) [] 0 0 := by
  refine Law.of_walk (plainFor_of_name (by decide +kernel)) (by decide +kernel) (by decide +kernel) (by decide) (fun _ _ h => by rw [h.1]; rfl) (fun _ U U' hal hh h => ⟨h.1, h.2.1.mv hal hh, h.2.2.1, h.2.2.2.1.there hal hh, h.2.2.2.2⟩) (fun r U U' V V' h1 hal h2 h => XT.PureE.mv r U U' V V' h1 hal h2 h) ?_
  intro p e s m args below meth c s₁ X0 hexec hbytes hml hret hlk hnm hown hh0 W hP
  obtain ⟨rfl, hx, hc, s1, hz⟩ := hP
  have c1 : Steps p.tables e below (s₁.setTop (entryFrame m #[.ref x] 1)) (s₁.setTop (mkF m 0 #[.val (.ref x)] [])) := entry rfl
  obtain ⟨T2, X2, q2, st2⟩ := X0.sget hexec hown (wk W (.fieldLink "java/lang/String" 38 "java/lang/String" "COMPACT_STRINGS" "Z")) s1 (fun _ _ h => by rw [hh0]; exact h) (g := (mkF m 0 #[.val (.ref x)] [])) rfl (hb hbytes d0)
  have hh2 := q2.trans hh0
  have c3 : Steps p.tables e below (s₁.setTop (entryFrame m #[.ref x] 1)) (T2.setTop (mkF m 7 #[.val (.ref x)] [.ref x])) := (c1.trans (st2 _ (Steps.refl _))).trans (by
    refine XS.ifNo X2.here hexec rfl (hb hbytes d3) rfl (i0_eq_f hz) ?_
    refine XS.aloadN X2.here hexec rfl (hb hbytes d6) rfl rfl ?_
    exact Steps.refl _)
  obtain ⟨T4, X4, q4, st4⟩ := X2.hget hexec hown (wk W (.fieldLink "java/lang/String" 15 "java/lang/String" "coder" "B")) (hx.mv X2.warmed.alike hh2) (g := (mkF m 7 #[.val (.ref x)] [.ref x])) rfl (rest := []) rfl (hb hbytes d7)
  have c5 : Steps p.tables e below (s₁.setTop (entryFrame m #[.ref x] 1)) (T4.setTop (mkF m 10 #[.val (.ref x)] [.int cd])) := c3.trans (st4 _ (Steps.refl _))
  have c6 : Steps p.tables e below (s₁.setTop (entryFrame m #[.ref x] 1)) (T4.setTop (mkF m 18 #[.val (.ref x)] [.int (1 - cd)])) := by
    rcases hc with rfl | rfl
    · exact c5.trans (by
        refine XS.ifNo X4.here hexec rfl (hb hbytes d10) rfl (i0_ne_f rfl) ?_
        refine iconstV X4.here hexec rfl 1 (hb hbytes d13) (by decide) ?_
        refine XS.goto X4.here hexec rfl (pc0 := 14) rfl (hb hbytes d14) (by decide) rfl ?_
        exact Steps.refl _)
    · exact c5.trans (by
        refine XS.ifYes X4.here hexec rfl (pc0 := 10) rfl (hb hbytes d10) rfl (i0_ne_t (by decide)) (by decide) rfl ?_
        refine iconstV X4.here hexec rfl 0 (hb hbytes d17) (by decide) ?_
        exact Steps.refl _)
  exact ⟨T4, some (.int (1 - cd)), _, _, _, X4, rfl, rfl, rfl, (fun h => by cases h), ⟨rfl, q4.trans hh2⟩, fun fs hl => c6.trans (X4.ireturnOut hexec hret (by rcases hc with rfl | rfl <;> rfl) (Or.inr (Or.inl rfl)) (hb hbytes d18) hl)⟩
end IsL
namespace LChA
def yN : MethodName := ⟨"java/lang/StringLatin1", "charAt", "([BI)C"⟩
abbrev yB : ByteArray := jdk_43_method_2_code
theorem d0 : decode yB 0 = .ok (.iload_n 1, 1) := by decide +kernel
theorem d1 : decode yB 1 = .ok (.aload_n 0, 1) := by decide +kernel
theorem d2 : decode yB 2 = .ok (.arraylength, 1) := by decide +kernel
theorem d3 : decode yB 3 = .ok (.invokestatic 9, 3) := by decide +kernel
theorem d6 : decode yB 6 = .ok (.aload_n 0, 1) := by decide +kernel
theorem d7 : decode yB 7 = .ok (.iload_n 1, 1) := by decide +kernel
theorem d8 : decode yB 8 = .ok (.baload, 1) := by decide +kernel
theorem d9 : decode yB 9 = .ok (.sipush 255, 3) := by decide +kernel
theorem d12 : decode yB 12 = .ok (.iand, 1) := by decide +kernel
theorem d13 : decode yB 13 = .ok (.i2c, 1) := by decide +kernel
theorem d14 : decode yB 14 = .ok (.ireturn, 1) := by decide +kernel
def site : List Cond := [JO.Str_checkIndex.tab] ++ staticW "java/lang/StringLatin1" 9 JO.Str_checkIndex.yN
def tab : Cond := tabOf yN yB 2 (some .char) site
def P (t : Addr) (V : Cell) (i : Nat) (u : Int32) (fm : Value) (args : Array Value) (s : State) : Prop := args = #[.ref t, .int (Int32.ofNat i)] ∧ XT.Arr .byte t V s ∧ V.slots[i]? = some (.int u) ∧ (StaticIs s "jdk/internal/util/Preconditions" "SIOOBE_FORMATTER" "Ljava/util/function/BiFunction;" fm ∧ fm.isRef = true)
def E (u : Int32) (r : Option Value) (s w : State) : Prop := XT.PureE (some (.int (chr8 u))) r s w
theorem law (l : Launch) (t : Addr) (V : Cell) (i : Nat) (u : Int32) (fm : Value) : Law l yN 2 2 2 27 yB 2 (some .char) site (P t V i u fm) (E u) [] 0 0 := by
  refine Law.of_walk (plainFor_of_name (by decide +kernel)) (by decide +kernel) (by decide +kernel) (by decide) (fun _ _ h => by rw [h.1]; rfl) (fun _ U U' hal hh h => ⟨h.1, h.2.1.mv hal hh, h.2.2.1, h.2.2.2.1.there hal hh, h.2.2.2.2⟩) (fun r U U' V V' h1 hal h2 h => XT.PureE.mv r U U' V V' h1 hal h2 h) ?_
  intro p e s m args below meth c s₁ X0 hexec hbytes hml hret hlk hnm hown hh0 W hP
  obtain ⟨rfl, hV, hu, s1, rf⟩ := hP
  have v31 := hV.2.2.2
  have hi : i < V.slots.size := (Array.getElem?_eq_some_iff.mp hu).1
  have c1 : Steps p.tables e below (s₁.setTop (entryFrame m #[.ref t, .int (Int32.ofNat i)] 2)) (s₁.setTop (mkF m 0 #[.val (.ref t), .val (.int (Int32.ofNat i))] [])) := entry rfl
  have c2 : Steps p.tables e below (s₁.setTop (entryFrame m #[.ref t, .int (Int32.ofNat i)] 2)) (s₁.setTop (mkF m 3 #[.val (.ref t), .val (.int (Int32.ofNat i))] [.int (Int32.ofNat V.slots.size), .int (Int32.ofNat i)])) := c1.trans (by
    refine XS.iloadN X0.here hexec rfl (hb hbytes d0) rfl ?_
    refine XS.aloadN X0.here hexec rfl (hb hbytes d1) rfl rfl ?_
    refine X0.alen hexec (hV.mv X0.warmed.alike hh0) rfl rfl (hb hbytes d2) ?_
    exact Steps.refl _)
  obtain ⟨v3, T3, X3, E3, g3⟩ := X0.callS hexec (JO.Str_checkIndex.law l (Int32.ofNat i) (Int32.ofNat V.slots.size) fm) hown (wks W (staticW "java/lang/StringLatin1" 9 JO.Str_checkIndex.yN)) (wk W JO.Str_checkIndex.tab) (W := 0) (Nat.le_of_ble_eq_true rfl) (Nat.le_of_ble_eq_true rfl) (Nat.le_refl _) (Nat.le_refl _) (g := (mkF m 3 #[.val (.ref t), .val (.int (Int32.ofNat i))] [.int (Int32.ofNat V.slots.size), .int (Int32.ofNat i)])) rfl (by rw [hml]; rfl) c2 (argsL := [.int (Int32.ofNat i), .int (Int32.ofNat V.slots.size)]) (rest := []) rfl rfl (by show 2 * 0 + 0 ≤ _; decide) (hb hbytes d3) (⟨rfl, rf, s1.there X0.warmed.alike hh0, Int32.ofNat_not_neg (by omega), lt32 v31 hi⟩)
  obtain ⟨rfl, q3⟩ := E3
  have hh3 := q3.trans hh0
  have c4 : Steps p.tables e below (s₁.setTop (entryFrame m #[.ref t, .int (Int32.ofNat i)] 2)) (T3.setTop (mkF m 14 #[.val (.ref t), .val (.int (Int32.ofNat i))] [.int (chr8 u)])) := Steps.trans g3 (by
    refine XS.aloadN X3.here hexec rfl (hb hbytes d6) rfl rfl ?_
    refine XS.iloadN X3.here hexec rfl (hb hbytes d7) rfl ?_
    refine X3.aget hexec (hV.mv X3.warmed.alike hh3) rfl hu rfl rfl (hb hbytes d8) ?_
    refine sipushV X3.here hexec rfl 255 (hb hbytes d9) (by decide) ?_
    refine XS.iand X3.here hexec rfl (hb hbytes d12) rfl ?_
    refine i2c X3.here hexec rfl (hb hbytes d13) rfl ?_
    exact Steps.refl _)
  exact ⟨T3, some (.int (chr8 u)), _, _, _, X3, rfl, rfl, rfl, (fun h => by cases h), ⟨rfl, hh3⟩, fun fs hl => c4.trans (X3.ireturnOut hexec hret (narrow_c _) (Or.inr (Or.inr (Or.inr (Or.inl rfl)))) (hb hbytes d14) hl)⟩
end LChA
end StrChars
namespace StrChars.Road
open Jvm Sem ClassFile Op Lib Jvm.Stand Jvm.Free Jvm.Free.XT
open Jvm.Lib.Cold (StaticIs)
theorem consq {a : Array Value} {s : State} {c : Jvm.Cond} {L : List Jvm.Cond} (h0 : c.before a s = true) (h : ∀ w ∈ L, w.before a s = true) : ∀ w ∈ c :: L, w.before a s = true := fun w hw => (List.mem_cons.mp hw).elim (fun e => e ▸ h0) (h w)
/-- the words of String.length(), either coding -/
abbrev wordsLen : List Jvm.Cond := [.code Len.yN Len.yB 1 (some .int), .initialized ST, .fieldLink ST 9 ST "value" "[B", .fieldLink ST 38 ST "COMPACT_STRINGS" "Z", .fieldLink ST 15 ST "coder" "B", .code Cdr.yN Cdr.yB 1 (some .byte), .methodLink ST 335 Cdr.yN, .declares Cdr.yN, .selects ST Cdr.yN Cdr.yN, .instanceMethod Cdr.yN]
theorem tabLen_of {a : Array Value} {s : State} (h : ∀ w ∈ wordsLen, w.before a s = true) : Len.tab.before a s = true := by
  have hc : Cdr.tab.before a s = true := unparts (wk h (.code Cdr.yN Cdr.yB 1 (some .byte))) (wks h (.initialized Cdr.yN.cls :: Cdr.site))
  have q := consq hc h
  exact unparts (wk q (.code Len.yN Len.yB 1 (some .int))) (wks q (.initialized Len.yN.cls :: Len.site))
theorem movedLen {Z s : State} {a0 args : Array Value} (hZ : Z.Warmed39 s.vm) (hw : ∀ d ∈ wordsLen, d.before a0 Z = true) : ∀ d ∈ wordsLen, d.before args s = true := fun d hd => by
  have q := hw d hd
  have t : ∀ d ∈ wordsLen, d = .arrayClass .byte ∨ (d.onTables && d.keepsFace) = true := by decide +kernel
  rcases t d hd with rfl | t
  · exact RoadKit.mvA hZ q
  · exact RoadKit.mv hZ q t
/-- the bytes of the chars cs, low before high -/
def wideBytes : List Int32 → List Value
  | [] => []
  | c :: cs => .int (lo8 c) :: .int (hi8 c) :: wideBytes cs
theorem wide_lo (d : Value) : ∀ (cs : List Int32) (j : Nat), j < cs.length → (wideBytes cs).getD (2 * j) d = .int (lo8 (cs.getD j 0))
  | [], j, h => absurd h (Nat.not_lt_zero j)
  | c :: cs, 0, _ => rfl
  | c :: cs, j + 1, h => by
    have q := wide_lo d cs j (by simpa using h)
    rw [show 2 * (j + 1) = 2 * j + 1 + 1 from by omega]
    simpa [wideBytes] using q
theorem wide_hi (d : Value) : ∀ (cs : List Int32) (j : Nat), j < cs.length → (wideBytes cs).getD (2 * j + 1) d = .int (hi8 (cs.getD j 0))
  | [], j, h => absurd h (Nat.not_lt_zero j)
  | c :: cs, 0, _ => rfl
  | c :: cs, j + 1, h => by
    have q := wide_hi d cs j (by simpa using h)
    rw [show 2 * (j + 1) + 1 = 2 * j + 1 + 1 + 1 from by omega]
    simpa [wideBytes] using q
theorem low_at (d : Value) (cs : List Int32) (j : Nat) (h : j < cs.length) : (cs.map fun c => Value.int (lo8 c)).getD j d = .int (lo8 (cs.getD j 0)) := by
  simp [List.getD_eq_getElem?_getD, h]
/-- an array of N2 bytes vs codes the chars cs by the coder cd -/
def CodA (cs : List Int32) (cd N2 : Int32) (vs : List Value) : Prop := (cd = 0 ∧ N2 = Int32.ofNat cs.length ∧ vs = (cs.map fun c => Value.int (lo8 c)) ∧ ∀ c ∈ cs, ¬ 255 < c) ∨ (cd = 1 ∧ N2 = Int32.ofNat (2 * cs.length) ∧ vs = wideBytes cs ∧ ∃ c ∈ cs, 255 < c)
theorem CodA.cod {cs : List Int32} {cd N2 : Int32} {vs : List Value} {V : Cell} (h : CodA cs cd N2 vs) (hn : 2 * cs.length < 2 ^ 31) (hs : V.slots.size = N2.toNatClampNeg) (hv : RoadKit.Has V vs (.int 0)) : Cod cd cs.length (fun j => cs.getD j 0) V := by
  rcases h with ⟨rfl, rfl, rfl, h⟩ | ⟨rfl, rfl, rfl, c, hc, hw⟩
  · rw [n32 (by omega)] at hs
    exact Or.inl ⟨rfl, hs, fun j hj => ⟨by rw [hv j (by omega), low_at _ _ _ hj], by
      have e : cs.getD j 0 = cs[j] := by simp [List.getD_eq_getElem?_getD, hj]
      show ¬ 255 < cs.getD j 0
      rw [e]; exact h _ (List.getElem_mem _)⟩⟩
  · rw [n32 (by omega)] at hs
    obtain ⟨j, hj, rfl⟩ := List.getElem_of_mem hc
    exact Or.inr ⟨rfl, hs, fun j hj => ⟨by rw [hv _ (by omega), wide_lo _ _ _ hj], by rw [hv _ (by omega), wide_hi _ _ _ hj]⟩, j, hj, by
      have e : cs.getD j 0 = cs[j] := by simp [List.getD_eq_getElem?_getD, hj]
      show 255 < cs.getD j 0
      rw [e]; exact hw⟩
/-- an object of exactly java/lang/String, its two fields found: as the laws ask it -/
theorem strObj {Z U : State} {a0 : Array Value} {kI : Nat} (wi : (Jvm.Cond.instantiable ST kI).before a0 Z = true) (al : Z.vm.Alike U.vm) {x : Addr} {v0 c0 : Value} (E : RoadKit.Exa Z U.heap x ST) (V : RoadKit.Fld Z U.heap x ST "value" "[B" v0) (C : RoadKit.Fld Z U.heap x ST "coder" "B" c0) :
    ∃ (D : Cell) (fV fC : Field), Blank ST x D U ∧ Found ST "value" "[B" fV U ∧ Found ST "coder" "B" fC U ∧ D.slots[fV.slot]? = some v0 ∧ D.slots[fC.slot]? = some c0 ∧ RoadKit.slotOf Z ST "value" "[B" = fV.slot ∧ RoadKit.slotOf Z ST "coder" "B" = fC.slot := by
  obtain ⟨D, cfV, kV, iV, fV, hD, gV, stV, knV, obV, asV, slV⟩ := V
  obtain ⟨D', cfC, kC, iC, fC, hD', gC, stC, -, -, asC, slC⟩ := C
  cases hD.symm.trans hD'
  obtain ⟨D2, kD, e1, e2, e3, e4, e5⟩ := E
  cases hD.symm.trans e1
  obtain ⟨c2, k2, i1, i2, i3, -⟩ := Cond.instantiable_spec wi
  cases e2.symm.trans i1
  cases e3.symm.trans i2
  obtain ⟨kU, u1, u2⟩ := al.2.2 _ _ e3
  exact ⟨D, fV, fC, ⟨hD, ⟨knV, fun q hq => by rw [hq] at obV; cases obV⟩, by rw [al.findClass]; exact e2, kU, u1, by rw [u2]; exact i3, by rw [u2]; exact e5 i3⟩, ⟨SBG.found_only al ⟨cfV, kV, iV, gV⟩, stV⟩, ⟨SBG.found_only al ⟨cfC, kC, iC, gC⟩, stC⟩, slV, slC, by simp [RoadKit.slotOf, gV], by simp [RoadKit.slotOf, gC]⟩
theorem sta_is {Z U : State} (al : Z.vm.Alike U.vm) {C n d : String} {v : Value} (S : RoadKit.Sta Z U.heap C n d v) : StaticIs U C n d v := by
  obtain ⟨cfS, iS, kS, fS, st, cS, t1, t2, t3, t4, t5, t6, t7⟩ := S
  exact StaticIs.there (s := { Z with heap := U.heap }) ⟨cfS, iS, kS, fS, st, cS, t1, t2, t3, t4, t5, (fun q => by rw [q] at t6; cases t6), t7⟩ al rfl
/-- **length() OF SUCH A STRING** -/
theorem lenW {p : Program} {l : Launch} {e : Env} {R : Room} {s : State} {args : Array Value} {below : List Frame} {len W : Nat} {Z : State} {a0 : Array Value} {h : Heap} (hZ : Z.Warmed39 s.vm) (hw : ∀ d ∈ wordsLen, d.before a0 Z = true) {kI : Nat} (wi : (Jvm.Cond.instantiable ST kI).before a0 Z = true)
    {x t : Addr} {kb : ClassId} {cs : List Int32} {cd N2 z : Int32} {vs : List Value} (E : RoadKit.Exa Z h x ST) (V : RoadKit.Fld Z h x ST "value" "[B" (.ref t)) (C : RoadKit.Fld Z h x ST "coder" "B" (.int cd)) (K : RoadKit.Arv Z h t kb .byte N2 vs (.int 0)) (hc : CodA cs cd N2 vs) (hb : ∀ c ∈ cs, ¬ c < 0 ∧ ¬ (65535 : Int32) < c)
    (S : RoadKit.Sta Z h ST "COMPACT_STRINGS" "Z" (.int z)) (hz : ¬ z = 0) (l2 : cs.length ≤ 4000) (hfr : 2 ≤ R.frames) (hlo : W + 25 ≤ R.locals) :
    Back l R p e below s args (⟨"java/lang/String", "length", "()I"⟩ : MethodName) len W (fun P a => a = #[.ref x] ∧ P.U.heap = h ∧ P.cells + 0 ≤ R.cells ∧ P.slots + 0 ≤ R.slots)
      (fun P _ v B => ∃ L, (v = some (.int (Int32.ofNat cs.length)) ∧ L = [] ∧ B.U.heap = h) ∧ B.locs = P.locs ++ L ∧ B.cells = P.cells + 0 ∧ B.slots = P.slots + 0) := by
  obtain ⟨A, K1, K2, K3, K4, K5, K6⟩ := K
  have hcod := hc.cod (by omega) K3 K5
  intro m meth c P g ig mk a X hg hsize hdg hW hn hp'
  obtain ⟨rfl, rfl, r1, r2⟩ := hp'
  have al : Z.vm.Alike P.U.vm := hZ.alike.trans X.warmed.alike
  obtain ⟨D, fV, fC, hB, F1, F2, g1, g2, -, -⟩ := strObj wi al E V C
  have hx : Txt x t A cd cs.length (fun j => cs.getD j 0) P.U := ⟨⟨_, hB.2.2.1, D, hB.1, rfl, by cases q : D.vm <;> first | rfl | exact absurd q (hB.2.1.2 _)⟩, Has.of hB F1 g1, Has.of hB F2 g2, ⟨K1.1, State.isArrayOf_alike al K1.2.1, K1.2.2, by rcases hcod with ⟨-, q, -⟩ | ⟨-, q, -⟩ <;> omega⟩, hcod, fun j hj => by
    have e : cs.getD j 0 = cs[j] := by simp [List.getD_eq_getElem?_getD, hj]
    show ¬ cs.getD j 0 < 0 ∧ ¬ 65535 < cs.getD j 0
    rw [e]; exact hb _ (List.getElem_mem _)⟩
  obtain ⟨v, B, X', ⟨⟨hv, hh⟩, hl, hk, hs⟩, st⟩ := Len.pays x t A cd cs.length (fun j => cs.getD j 0) z (tabLen_of (movedLen hZ hw)) hfr hlo m meth c P g ig mk _ X hg hsize hdg hW hn ⟨r1, r2, rfl, hx, sta_is al S, hz⟩
  exact ⟨v, B, X', ⟨[], ⟨hv, rfl, hh⟩, hl, hk, hs⟩, st⟩
end StrChars.Road
namespace StrChars
open Jvm Sem ClassFile Op Lib Jvm.Stand Jvm.Free.XT Jvm.Free.ALB Jvm.Free.JM Jvm.Free
open Jvm.Lib.Cold (StaticIs)
namespace Emp
def yN : MethodName := ⟨"java/lang/String", "isEmpty", "()Z"⟩
abbrev yB : ByteArray := jdk_42_method_55_code
theorem d0 : decode yB 0 = .ok (.aload_n 0, 1) := by decide +kernel
theorem d1 : decode yB 1 = .ok (.getfield 9, 3) := by decide +kernel
theorem d4 : decode yB 4 = .ok (.arraylength, 1) := by decide +kernel
theorem d5 : decode yB 5 = .ok (.ifCond (.ne) 7, 3) := by decide +kernel
theorem d8 : decode yB 8 = .ok (.iconst 1, 1) := by decide +kernel
theorem d9 : decode yB 9 = .ok (.goto 4, 3) := by decide +kernel
theorem d12 : decode yB 12 = .ok (.iconst 0, 1) := by decide +kernel
theorem d13 : decode yB 13 = .ok (.ireturn, 1) := by decide +kernel
def site : List Cond := [.fieldLink "java/lang/String" 9 "java/lang/String" "value" "[B"]
def tab : Cond := tabOf yN yB 1 (some .boolean) site
def P (x t : Addr) (V : Cell) (cd : Int32) (n : Nat) (f : Nat → Int32) (args : Array Value) (s : State) : Prop := args = #[.ref x] ∧ Txt x t V cd n f s
def E (n : Nat) (r : Option Value) (s u : State) : Prop := XT.PureE (some (.int (if n = 0 then 1 else 0))) r s u
/-- isEmpty() of a String of n chars -/
theorem law (l : Launch) (x t : Addr) (V : Cell) (cd : Int32) (n : Nat) (f : Nat → Int32) : Law l yN 1 0 0 0 yB 1 (some .boolean) site (P x t V cd n f) (E n) [] 0 0 := by
  refine Law.of_walk (plainFor_of_name (by decide +kernel)) (by decide +kernel) (by decide +kernel) (by decide) (fun _ _ h => by rw [h.1]; rfl) (fun _ U U' hal hh h => ⟨h.1, h.2.mv hal hh⟩) (fun r U U' V V' h1 hal h2 h => XT.PureE.mv r U U' V V' h1 hal h2 h) ?_
  intro p e s m args below meth c s₁ X0 hexec hbytes hml hret hlk hnm hown hh0 W hP
  obtain ⟨rfl, hx⟩ := hP
  have v31 := hx.2.2.2.1.2.2.2
  have c1 : Steps p.tables e below (s₁.setTop (entryFrame m #[.ref x] 1)) (s₁.setTop (mkF m 1 #[.val (.ref x)] [.ref x])) := Steps.trans (entry rfl) (by
    show Steps p.tables e below (s₁.setTop (mkF m 0 #[.val (.ref x)] [])) _
    refine XS.aloadN X0.here hexec rfl (hb hbytes d0) rfl rfl ?_
    exact Steps.refl _)
  obtain ⟨T2, X2, q2, st2⟩ := X0.hget hexec hown (wk W (.fieldLink "java/lang/String" 9 "java/lang/String" "value" "[B")) (hx.mv X0.warmed.alike hh0).2.1 (g := (mkF m 1 #[.val (.ref x)] [.ref x])) rfl (rest := []) rfl (hb hbytes d1)
  have hh2 := q2.trans hh0
  have hx2 := hx.mv X2.warmed.alike hh2
  have c3 : Steps p.tables e below (s₁.setTop (entryFrame m #[.ref x] 1)) (T2.setTop (mkF m 5 #[.val (.ref x)] [.int (Int32.ofNat V.slots.size)])) := (c1.trans (st2 _ (Steps.refl _))).trans (by
    refine X2.alen hexec hx2.2.2.2.1 rfl rfl (hb hbytes d4) ?_
    exact Steps.refl _)
  have hz : V.slots.size = 0 ↔ n = 0 := by
    rcases hx.2.2.2.2.1 with ⟨-, q, -⟩ | ⟨-, q, -⟩ <;> omega
  by_cases h0 : n = 0
  · have c4 : Steps p.tables e below (s₁.setTop (entryFrame m #[.ref x] 1)) (T2.setTop (mkF m 13 #[.val (.ref x)] [.int 1])) := c3.trans (by
      refine XS.ifNo X2.here hexec rfl (hb hbytes d5) rfl (i0_ne_f (by rw [hz.mpr h0]; rfl)) ?_
      refine iconstV X2.here hexec rfl 1 (hb hbytes d8) (by decide) ?_
      refine XS.goto X2.here hexec rfl (pc0 := 9) rfl (hb hbytes d9) (by decide) rfl ?_
      exact Steps.refl _)
    exact ⟨T2, some (.int 1), _, _, _, X2, rfl, rfl, rfl, (fun h => by cases h), ⟨by rw [if_pos h0], hh2⟩, fun fs hl => c4.trans (X2.ireturnOut hexec hret rfl (Or.inr (Or.inl rfl)) (hb hbytes d13) hl)⟩
  · have c4 : Steps p.tables e below (s₁.setTop (entryFrame m #[.ref x] 1)) (T2.setTop (mkF m 13 #[.val (.ref x)] [.int 0])) := c3.trans (by
      refine XS.ifYes X2.here hexec rfl (pc0 := 5) rfl (hb hbytes d5) rfl (i0_ne_t (nz32 v31 (by omega))) (by decide) rfl ?_
      refine iconstV X2.here hexec rfl 0 (hb hbytes d12) (by decide) ?_
      exact Steps.refl _)
    exact ⟨T2, some (.int 0), _, _, _, X2, rfl, rfl, rfl, (fun h => by cases h), ⟨by rw [if_neg h0], hh2⟩, fun fs hl => c4.trans (X2.ireturnOut hexec hret rfl (Or.inr (Or.inl rfl)) (hb hbytes d13) hl)⟩
theorem pays {l : Launch} {R : Room} {p : Program} {e : Env} {below : List Frame} {s : State} {sargs : Array Value} {len W : Nat} (x t : Addr) (V : Cell) (cd : Int32) (n : Nat) (f : Nat → Int32) (htab : tab.before sargs s = true) (hfr : 1 ≤ R.frames) (hlo : W + 12 ≤ R.locals) :
    Back l R p e below s sargs yN len W (fun A₁ a₁ => A₁.cells + 0 ≤ R.cells ∧ A₁.slots + 0 ≤ R.slots ∧ P x t V cd n f a₁ A₁.U) (fun A₁ _ v₁ B₁ => E n v₁ A₁.U B₁.U ∧ B₁.locs = A₁.locs ++ [] ∧ B₁.cells = A₁.cells + 0 ∧ B₁.slots = A₁.slots + 0) :=
  (law l x t V cd n f).pays htab hfr (by omega)
end Emp
end StrChars
namespace StrChars.Road
open Jvm Sem ClassFile Op Lib Jvm.Stand Jvm.Free Jvm.Free.XT
open Jvm.Lib.Cold (StaticIs)
/-- the words of String.isEmpty() -/
abbrev wordsEmp : List Jvm.Cond := [.code Emp.yN Emp.yB 1 (some .boolean), .initialized ST, .fieldLink ST 9 ST "value" "[B"]
theorem tabEmp_of {a : Array Value} {s : State} (h : ∀ w ∈ wordsEmp, w.before a s = true) : Emp.tab.before a s = true := unparts (wk h (.code Emp.yN Emp.yB 1 (some .boolean))) (wks h (.initialized Emp.yN.cls :: Emp.site))
theorem movedEmp {Z s : State} {a0 args : Array Value} (hZ : Z.Warmed39 s.vm) (hw : ∀ d ∈ wordsEmp, d.before a0 Z = true) : ∀ d ∈ wordsEmp, d.before args s = true := fun d hd => by
  have t : ∀ d ∈ wordsEmp, (d.onTables && d.keepsFace) = true := by decide +kernel
  exact RoadKit.mv hZ (hw d hd) (t d hd)
/-- the road's facts of a String, as the laws ask it -/
theorem txt_of {Z U : State} {a0 : Array Value} {kI : Nat} (wi : (Jvm.Cond.instantiable ST kI).before a0 Z = true) (al : Z.vm.Alike U.vm) {x t : Addr} {kb : ClassId} {cs : List Int32} {cd N2 : Int32} {vs : List Value} (E : RoadKit.Exa Z U.heap x ST) (V : RoadKit.Fld Z U.heap x ST "value" "[B" (.ref t)) (C : RoadKit.Fld Z U.heap x ST "coder" "B" (.int cd)) (K : RoadKit.Arv Z U.heap t kb .byte N2 vs (.int 0)) (hc : CodA cs cd N2 vs) (hb : ∀ c ∈ cs, ¬ c < 0 ∧ ¬ (65535 : Int32) < c) (l2 : cs.length ≤ 4000) :
    ∃ A, Txt x t A cd cs.length (fun j => cs.getD j 0) U := by
  obtain ⟨A, K1, K2, K3, K4, K5, K6⟩ := K
  have hcod := hc.cod (by omega) K3 K5
  obtain ⟨D, fV, fC, hB, F1, F2, g1, g2, -, -⟩ := strObj wi al E V C
  exact ⟨A, ⟨_, hB.2.2.1, D, hB.1, rfl, by cases q : D.vm <;> first | rfl | exact absurd q (hB.2.1.2 _)⟩, Has.of hB F1 g1, Has.of hB F2 g2, ⟨K1.1, State.isArrayOf_alike al K1.2.1, K1.2.2, by rcases hcod with ⟨-, q, -⟩ | ⟨-, q, -⟩ <;> omega⟩, hcod, fun j hj => by
    have e : cs.getD j 0 = cs[j] := by simp [List.getD_eq_getElem?_getD, hj]
    show ¬ cs.getD j 0 < 0 ∧ ¬ 65535 < cs.getD j 0
    rw [e]; exact hb _ (List.getElem_mem _)⟩
/-- **isEmpty() OF SUCH A STRING** -/
theorem empW {p : Program} {l : Launch} {e : Env} {R : Room} {s : State} {args : Array Value} {below : List Frame} {len W : Nat} {Z : State} {a0 : Array Value} {h : Heap} (hZ : Z.Warmed39 s.vm) (hw : ∀ d ∈ wordsEmp, d.before a0 Z = true) {kI : Nat} (wi : (Jvm.Cond.instantiable ST kI).before a0 Z = true)
    {x t : Addr} {kb : ClassId} {cs : List Int32} {cd N2 : Int32} {vs : List Value} (E : RoadKit.Exa Z h x ST) (V : RoadKit.Fld Z h x ST "value" "[B" (.ref t)) (C : RoadKit.Fld Z h x ST "coder" "B" (.int cd)) (K : RoadKit.Arv Z h t kb .byte N2 vs (.int 0)) (hc : CodA cs cd N2 vs) (hb : ∀ c ∈ cs, ¬ c < 0 ∧ ¬ (65535 : Int32) < c) (l2 : cs.length ≤ 4000) (hfr : 1 ≤ R.frames) (hlo : W + 12 ≤ R.locals) :
    Back l R p e below s args (⟨"java/lang/String", "isEmpty", "()Z"⟩ : MethodName) len W (fun P a => a = #[.ref x] ∧ P.U.heap = h ∧ P.cells + 0 ≤ R.cells ∧ P.slots + 0 ≤ R.slots)
      (fun P _ v B => ∃ L, (v = some (.int (if cs.length = 0 then 1 else 0)) ∧ L = [] ∧ B.U.heap = h) ∧ B.locs = P.locs ++ L ∧ B.cells = P.cells + 0 ∧ B.slots = P.slots + 0) := by
  intro m meth c P g ig mk a X hg hsize hdg hW hn hp'
  obtain ⟨rfl, rfl, r1, r2⟩ := hp'
  have al : Z.vm.Alike P.U.vm := hZ.alike.trans X.warmed.alike
  obtain ⟨A, hx⟩ := txt_of wi al E V C K hc hb l2
  obtain ⟨v, B, X', ⟨⟨hv, hh⟩, hl, hk, hs⟩, st⟩ := Emp.pays x t A cd cs.length (fun j => cs.getD j 0) (tabEmp_of (movedEmp hZ hw)) hfr hlo m meth c P g ig mk _ X hg hsize hdg hW hn ⟨r1, r2, rfl, hx⟩
  exact ⟨v, B, X', ⟨[], ⟨hv, rfl, hh⟩, hl, hk, hs⟩, st⟩
end StrChars.Road
namespace StrChars
open Jvm Sem ClassFile Op Lib Jvm.Stand Jvm.Free.XT Jvm.Free.ALB Jvm.Free.JM Jvm.Free
open Jvm.Lib.Cold (StaticIs)
namespace ChN
def yN : MethodName := ⟨"java/lang/String", "charAt", "(I)C"⟩
abbrev yB : ByteArray := jdk_42_method_56_code
theorem d0 : decode yB 0 = .ok (.aload_n 0, 1) := by decide +kernel
theorem d1 : decode yB 1 = .ok (.invokevirtual 492, 3) := by decide +kernel
theorem d4 : decode yB 4 = .ok (.ifCond (.eq) 12, 3) := by decide +kernel
theorem d7 : decode yB 7 = .ok (.aload_n 0, 1) := by decide +kernel
theorem d8 : decode yB 8 = .ok (.getfield 9, 3) := by decide +kernel
theorem d11 : decode yB 11 = .ok (.iload_n 1, 1) := by decide +kernel
theorem d12 : decode yB 12 = .ok (.invokestatic 495, 3) := by decide +kernel
theorem d15 : decode yB 15 = .ok (.ireturn, 1) := by decide +kernel
def site : List Cond := [.fieldLink "java/lang/String" 9 "java/lang/String" "value" "[B", IsL.tab, LChA.tab] ++ virtW "java/lang/String" 492 "java/lang/String" IsL.yN IsL.yN ++ staticW "java/lang/String" 495 LChA.yN
def tab : Cond := tabOf yN yB 2 (some .char) site
def P (x t : Addr) (V : Cell) (n : Nat) (f : Nat → Int32) (z : Int32) (fm : Value) (i : Nat) (args : Array Value) (s : State) : Prop := args = #[.ref x, .int (Int32.ofNat i)] ∧ Txt x t V 0 n f s ∧ i < n ∧ StaticIs s "java/lang/String" "COMPACT_STRINGS" "Z" (.int z) ∧ ¬ z = 0 ∧ StaticIs s "jdk/internal/util/Preconditions" "SIOOBE_FORMATTER" "Ljava/util/function/BiFunction;" fm ∧ fm.isRef = true
def E (f : Nat → Int32) (i : Nat) (r : Option Value) (s u : State) : Prop := XT.PureE (some (.int (f i))) r s u
/-- charAt(i) of a Latin-1 String of n chars, i < n: f i -/
theorem law (l : Launch) (x t : Addr) (V : Cell) (n : Nat) (f : Nat → Int32) (z : Int32) (fm : Value) (i : Nat) : Law l yN 2 1 3 40 yB 2 (some .char) site (P x t V n f z fm i) (E f i) [] 0 0 := by
  refine Law.of_walk (plainFor_of_name (by decide +kernel)) (by decide +kernel) (by decide +kernel) (by decide) (fun _ _ h => by rw [h.1]; rfl) (fun _ U U' hal hh h => ⟨h.1, h.2.1.mv hal hh, h.2.2.1, h.2.2.2.1.there hal hh, h.2.2.2.2.1, h.2.2.2.2.2.1.there hal hh, h.2.2.2.2.2.2⟩) (fun r U U' V V' h1 hal h2 h => XT.PureE.mv r U U' V V' h1 hal h2 h) ?_
  intro p e s m args below meth c s₁ X0 hexec hbytes hml hret hlk hnm hown hh0 W hP
  obtain ⟨rfl, hx, hi, s1, hz, s3, rf⟩ := hP
  have v31 := hx.2.2.2.1.2.2.2
  have hr := hx.2.2.2.2.2 i hi
  have hx0 := hx.mv X0.warmed.alike hh0
  have c1 : Steps p.tables e below (s₁.setTop (entryFrame m #[.ref x, .int (Int32.ofNat i)] 2)) (s₁.setTop (mkF m 1 #[.val (.ref x), .val (.int (Int32.ofNat i))] [.ref x])) := Steps.trans (entry rfl) (by
    show Steps p.tables e below (s₁.setTop (mkF m 0 #[.val (.ref x), .val (.int (Int32.ofNat i))] [])) _
    refine XS.aloadN X0.here hexec rfl (hb hbytes d0) rfl rfl ?_
    exact Steps.refl _)
  obtain ⟨v2, T2, X2, E2, g2⟩ := X0.callV hexec (IsL.law l x 0 z) hown (wks W (virtW "java/lang/String" 492 "java/lang/String" IsL.yN IsL.yN)) rfl (by decide) (wk W IsL.tab) (W := 0) (Nat.le_of_ble_eq_true rfl) (Nat.le_of_ble_eq_true rfl) (Nat.le_refl _) (Nat.le_refl _) (hx0.1.fc X0.warmed.alike) hx0.1.is (g := (mkF m 1 #[.val (.ref x), .val (.int (Int32.ofNat i))] [.ref x])) rfl (by rw [hml]; rfl) c1 (argsL := []) (rest := []) rfl rfl (by show 2 * 0 + 0 ≤ _; decide) (hb hbytes d1) (⟨rfl, hx0.2.2.1, hx.2.2.2.2.1.cd, s1.there X0.warmed.alike hh0, hz⟩)
  obtain ⟨rfl, q2⟩ := E2
  have hh2 := q2.trans hh0
  have hx2 := hx.mv X2.warmed.alike hh2
  obtain ⟨-, k1, k2⟩ | ⟨k0, -⟩ := hx.2.2.2.2.1
  · have c3 : Steps p.tables e below (s₁.setTop (entryFrame m #[.ref x, .int (Int32.ofNat i)] 2)) (T2.setTop (mkF m 8 #[.val (.ref x), .val (.int (Int32.ofNat i))] [.ref x])) := Steps.trans g2 (by
      refine XS.ifNo X2.here hexec rfl (hb hbytes d4) rfl (i0_eq_f (by decide)) ?_
      refine XS.aloadN X2.here hexec rfl (hb hbytes d7) rfl rfl ?_
      exact Steps.refl _)
    obtain ⟨T4, X4, q4, st4⟩ := X2.hget hexec hown (wk W (.fieldLink "java/lang/String" 9 "java/lang/String" "value" "[B")) hx2.2.1 (g := (mkF m 8 #[.val (.ref x), .val (.int (Int32.ofNat i))] [.ref x])) rfl (rest := []) rfl (hb hbytes d8)
    have hh4 := q4.trans hh2
    have c5 : Steps p.tables e below (s₁.setTop (entryFrame m #[.ref x, .int (Int32.ofNat i)] 2)) (T4.setTop (mkF m 12 #[.val (.ref x), .val (.int (Int32.ofNat i))] [.int (Int32.ofNat i), .ref t])) := (c3.trans (st4 _ (Steps.refl _))).trans (by
      refine XS.iloadN X4.here hexec rfl (hb hbytes d11) rfl ?_
      exact Steps.refl _)
    obtain ⟨v6, T6, X6, E6, g6⟩ := X4.callS hexec (LChA.law l t V i (lo8 (f i)) fm) hown (wks W (staticW "java/lang/String" 495 LChA.yN)) (wk W LChA.tab) (W := 0) (Nat.le_of_ble_eq_true rfl) (Nat.le_of_ble_eq_true rfl) (Nat.le_refl _) (Nat.le_refl _) (g := (mkF m 12 #[.val (.ref x), .val (.int (Int32.ofNat i))] [.int (Int32.ofNat i), .ref t])) rfl (by rw [hml]; rfl) c5 (argsL := [.ref t, .int (Int32.ofNat i)]) (rest := []) rfl rfl (by show 2 * 0 + 0 ≤ _; decide) (hb hbytes d12) (⟨rfl, hx.2.2.2.1.mv X4.warmed.alike hh4, (k2 i hi).1, s3.there X4.warmed.alike hh4, rf⟩)
    obtain ⟨rfl, q6⟩ := E6
    rw [chr8_lo8 hr.1 (k2 i hi).2] at g6
    exact ⟨T6, some (.int (f i)), _, _, _, X6, rfl, rfl, rfl, (fun h => by cases h), ⟨rfl, q6.trans hh4⟩, fun fs hl => Steps.trans g6 (X6.ireturnOut hexec hret (narrow_ch hr.1 hr.2) (Or.inr (Or.inr (Or.inr (Or.inl rfl)))) (hb hbytes d15) hl)⟩
  · exact absurd k0 (by decide)
theorem pays {l : Launch} {R : Room} {p : Program} {e : Env} {below : List Frame} {s : State} {sargs : Array Value} {len W : Nat} (x t : Addr) (V : Cell) (n : Nat) (f : Nat → Int32) (z : Int32) (fm : Value) (i : Nat) (htab : tab.before sargs s = true) (hfr : 4 ≤ R.frames) (hlo : W + 53 ≤ R.locals) :
    Back l R p e below s sargs yN len W (fun A₁ a₁ => A₁.cells + 0 ≤ R.cells ∧ A₁.slots + 0 ≤ R.slots ∧ P x t V n f z fm i a₁ A₁.U) (fun A₁ _ v₁ B₁ => E f i v₁ A₁.U B₁.U ∧ B₁.locs = A₁.locs ++ [] ∧ B₁.cells = A₁.cells + 0 ∧ B₁.slots = A₁.slots + 0) :=
  (law l x t V n f z fm i).pays htab hfr (by omega)
end ChN
end StrChars
namespace StrChars.Road
open Jvm Sem ClassFile Op Lib Jvm.Stand Jvm.Free Jvm.Free.XT
open Jvm.Lib.Cold (StaticIs)
/-- the words of String.charAt(int), the Latin-1 road alone -/
abbrev wordsChN : List Jvm.Cond := [.code ChN.yN ChN.yB 2 (some .char), .initialized ST, .fieldLink ST 9 ST "value" "[B", .fieldLink ST 38 ST "COMPACT_STRINGS" "Z", .fieldLink ST 15 ST "coder" "B", .code IsL.yN IsL.yB 1 (some .boolean), .methodLink ST 492 IsL.yN, .declares IsL.yN, .selects ST IsL.yN IsL.yN, .instanceMethod IsL.yN,
  .methodLink ST 495 LChA.yN, .static LChA.yN, .code LChA.yN LChA.yB 2 (some .char), .initialized "java/lang/StringLatin1", .methodLink "java/lang/StringLatin1" 9 JO.Str_checkIndex.yN, .static JO.Str_checkIndex.yN, .code JO.Str_checkIndex.yN JO.Str_checkIndex.yB 2 none,
  .fieldLink ST 1053 "jdk/internal/util/Preconditions" "SIOOBE_FORMATTER" "Ljava/util/function/BiFunction;", .methodLink ST 1059 JC.PreCheck.yN, .static JC.PreCheck.yN, .code JC.PreCheck.yN JC.PreCheck.yB 3 (some .int), .initialized "jdk/internal/util/Preconditions"]
theorem tabChN_of {a : Array Value} {s : State} (h : ∀ w ∈ wordsChN, w.before a s = true) : ChN.tab.before a s = true := by
  have hp : JC.PreCheck.tab.before a s = true := unparts (wk h (.code JC.PreCheck.yN JC.PreCheck.yB 3 (some .int))) (wks h (.initialized JC.PreCheck.yN.cls :: JC.PreCheck.site))
  have qk := consq hp h
  have hk : JO.Str_checkIndex.tab.before a s = true := unparts (wk qk (.code JO.Str_checkIndex.yN JO.Str_checkIndex.yB 2 none)) (wks qk (.initialized JO.Str_checkIndex.yN.cls :: JO.Str_checkIndex.site))
  have ql := consq hk h
  have hl : LChA.tab.before a s = true := unparts (wk ql (.code LChA.yN LChA.yB 2 (some .char))) (wks ql (.initialized LChA.yN.cls :: LChA.site))
  have hi : IsL.tab.before a s = true := unparts (wk h (.code IsL.yN IsL.yB 1 (some .boolean))) (wks h (.initialized IsL.yN.cls :: IsL.site))
  have q := consq hi (consq hl h)
  exact unparts (wk q (.code ChN.yN ChN.yB 2 (some .char))) (wks q (.initialized ChN.yN.cls :: ChN.site))
theorem movedChN {Z s : State} {a0 args : Array Value} (hZ : Z.Warmed39 s.vm) (hw : ∀ d ∈ wordsChN, d.before a0 Z = true) : ∀ d ∈ wordsChN, d.before args s = true := fun d hd => by
  have t : ∀ d ∈ wordsChN, (d.onTables && d.keepsFace) = true := by decide +kernel
  exact RoadKit.mv hZ (hw d hd) (t d hd)
/-- **charAt(i) OF A LATIN-1 STRING**, i < n: the char -/
theorem chN {p : Program} {l : Launch} {e : Env} {R : Room} {s : State} {args : Array Value} {below : List Frame} {len W : Nat} {Z : State} {a0 : Array Value} {h : Heap} (hZ : Z.Warmed39 s.vm) (hw : ∀ d ∈ wordsChN, d.before a0 Z = true) {kI : Nat} (wi : (Jvm.Cond.instantiable ST kI).before a0 Z = true)
    {x t : Addr} {kb : ClassId} {cs : List Int32} {N2 z : Int32} {vs : List Value} {fm : Value} {i : Nat} {j : Int32} (E : RoadKit.Exa Z h x ST) (V : RoadKit.Fld Z h x ST "value" "[B" (.ref t)) (C : RoadKit.Fld Z h x ST "coder" "B" (.int 0)) (K : RoadKit.Arv Z h t kb .byte N2 vs (.int 0)) (hc : CodA cs 0 N2 vs) (hb : ∀ c ∈ cs, ¬ c < 0 ∧ ¬ (65535 : Int32) < c)
    (S : RoadKit.Sta Z h ST "COMPACT_STRINGS" "Z" (.int z)) (hz : ¬ z = 0) (F : RoadKit.Sta Z h "jdk/internal/util/Preconditions" "SIOOBE_FORMATTER" "Ljava/util/function/BiFunction;" fm) (rf : fm.isRef = true) (l2 : cs.length ≤ 4000) (hi : i < cs.length) (hj : j = Int32.ofNat i) (hfr : 4 ≤ R.frames) (hlo : W + 53 ≤ R.locals) :
    Back l R p e below s args (⟨"java/lang/String", "charAt", "(I)C"⟩ : MethodName) len W (fun P a => a = #[.ref x, .int j] ∧ P.U.heap = h ∧ P.cells + 0 ≤ R.cells ∧ P.slots + 0 ≤ R.slots)
      (fun P _ v B => ∃ L, (v = some (.int (cs.getD i 0)) ∧ L = [] ∧ B.U.heap = h) ∧ B.locs = P.locs ++ L ∧ B.cells = P.cells + 0 ∧ B.slots = P.slots + 0) := by
  subst hj
  intro m meth c P g ig mk a X hg hsize hdg hW hn hp'
  obtain ⟨rfl, rfl, r1, r2⟩ := hp'
  have al : Z.vm.Alike P.U.vm := hZ.alike.trans X.warmed.alike
  obtain ⟨A, hx⟩ := txt_of wi al E V C K hc hb l2
  obtain ⟨v, B, X', ⟨⟨hv, hh⟩, hl, hk, hs⟩, st⟩ := ChN.pays x t A cs.length (fun j => cs.getD j 0) z fm i (tabChN_of (movedChN hZ hw)) hfr hlo m meth c P g ig mk _ X hg hsize hdg hW hn ⟨r1, r2, rfl, hx, hi, sta_is al S, hz, sta_is al F, rf⟩
  exact ⟨v, B, X', ⟨[], ⟨hv, rfl, hh⟩, hl, hk, hs⟩, st⟩
end StrChars.Road
end Jvm.Pilot.@@N@@
namespace Jvm.Pilot.@@N@@
open Jvm Jvm.ClassFile Sem Op Lib Jvm.Free Jvm.Stand Jvm.LawKit Jvm.RoadKit Bundle Jvm.Pilot.@@N@@.Jvm.D
def Av (Z : State) (h : Heap) (a : Addr) (ty : FieldType) (n : Int32) (vs : List Value) (d : Value) : Prop := ∃ k, Arv Z h a k ty n vs d
theorem Av.lt {Z : State} {h : Heap} {a : Addr} {ty : FieldType} {n : Int32} {vs : List Value} {d : Value} (F : Av Z h a ty n vs d) : a < h.size := by obtain ⟨k, F⟩ := F; exact F.lt
theorem Av.ext {Z : State} {h h' : Heap} {a : Addr} {ty : FieldType} {n : Int32} {vs : List Value} {d : Value} (F : Av Z h a ty n vs d) (E : Ext h h') : Av Z h' a ty n vs d := by obtain ⟨k, F⟩ := F; exact ⟨k, F.ext E⟩
theorem Av.other {Z : State} {h h' : Heap} {a b : Addr} {ty : FieldType} {n : Int32} {vs : List Value} {d : Value} {sl : Nat} {v : Value} (F : Av Z h b ty n vs d) (W : Wr h h' a sl v) (q : b ≠ a) : Av Z h' b ty n vs d := by obtain ⟨k, F⟩ := F; exact ⟨k, F.other W q⟩
def Al (Z : State) (h : Heap) (a : Addr) (ty : FieldType) (n : Int32) : Prop := ∃ c : Cell, Arr Z h a c ty ∧ c.slots.size = n.toNatClampNeg ∧ ¬ n < 0
theorem Al.lt {Z : State} {h : Heap} {a : Addr} {ty : FieldType} {n : Int32} (F : Al Z h a ty n) : a < h.size := by obtain ⟨c, A, -⟩ := F; exact A.lt
theorem Al.ext {Z : State} {h h' : Heap} {a : Addr} {ty : FieldType} {n : Int32} (F : Al Z h a ty n) (E : Ext h h') : Al Z h' a ty n := by obtain ⟨c, A, r⟩ := F; exact ⟨c, A.ext E, r⟩
theorem Al.other {Z : State} {h h' : Heap} {a b : Addr} {ty : FieldType} {n : Int32} {sl : Nat} {v : Value} (F : Al Z h b ty n) (W : Wr h h' a sl v) (q : b ≠ a) : Al Z h' b ty n := by obtain ⟨c, A, r⟩ := F; exact ⟨c, A.other W q, r⟩
theorem Al.same {Z : State} {h h' : Heap} {a : Addr} {ty : FieldType} {n : Int32} {sl : Nat} {v : Value} (F : Al Z h a ty n) (W : Wr h h' a sl v) : Al Z h' a ty n := by obtain ⟨c, A, r⟩ := F; exact ⟨_, A.same W, by rw [sz_set]; exact r.1, r.2⟩
theorem Al.keep {Z : State} {h h' : Heap} {a : Addr} {ty : FieldType} {n : Int32} {ws : List Addr} (F : Al Z h a ty n) (K : Keep h h' ws) (q : a ∉ ws) : Al Z h' a ty n := by obtain ⟨c, A, r⟩ := F; exact ⟨c, ⟨K.2.1 a c A.1 q, A.2⟩, r⟩
theorem Av.al {Z : State} {h : Heap} {a : Addr} {ty : FieldType} {n : Int32} {vs : List Value} {d : Value} (F : Av Z h a ty n vs d) : Al Z h a ty n := by obtain ⟨k, c, A, -, r1, r2, -⟩ := F; exact ⟨c, A, r1, r2⟩
theorem Av.keep {Z : State} {h h' : Heap} {a : Addr} {ty : FieldType} {n : Int32} {vs : List Value} {d : Value} {ws : List Addr} (F : Av Z h a ty n vs d) (K : Keep h h' ws) (q : a ∉ ws) : Av Z h' a ty n vs d := by obtain ⟨k, F⟩ := F; exact ⟨k, F.keep K q⟩
theorem own_m {α : Type} {l : List α} {d : α} (i : Nat) (h : l[i]? = some d) : d ∈ l := List.mem_of_getElem? h
abbrev MN1 : MethodName := ⟨"com/example/arbiter/arbiter/OrdinalTableOrdinalPinLaw", "pick", "(IIIII)[I"⟩
abbrev MN2 : MethodName := ⟨"java/lang/String", "valueOf", "(C)Ljava/lang/String;"⟩
abbrev MN3 : MethodName := ⟨"java/lang/StringLatin1", "canEncode", "(C)Z"⟩
abbrev MN4 : MethodName := ⟨"java/lang/StringLatin1", "toBytes", "(C)[B"⟩
abbrev MN5 : MethodName := ⟨"java/lang/String", "<init>", "([BB)V"⟩
abbrev MN7 : MethodName := ⟨"com/example/arbiter/arbiter/Name", "of", "(Ljava/lang/String;)Lcom/example/arbiter/arbiter/Name;"⟩
abbrev MN8 : MethodName := ⟨"java/util/Objects", "requireNonNull", "(Ljava/lang/Object;Ljava/lang/String;)Ljava/lang/Object;"⟩
abbrev MN9 : MethodName := ⟨"java/lang/String", "isEmpty", "()Z"⟩
abbrev MN10 : MethodName := ⟨"java/lang/String", "length", "()I"⟩
abbrev MN12 : MethodName := ⟨"java/lang/String", "codePointCount", "(II)I"⟩
abbrev MN13 : MethodName := ⟨"java/util/Objects", "checkFromToIndex", "(III)I"⟩
abbrev MN14 : MethodName := ⟨"jdk/internal/util/Preconditions", "checkFromToIndex", "(IIILjava/util/function/BiFunction;)I"⟩
abbrev MN15 : MethodName := ⟨"java/lang/String", "isLatin1", "()Z"⟩
abbrev MN16 : MethodName := ⟨"com/example/arbiter/arbiter/Name", "firstForbidden", "(Ljava/lang/String;)I"⟩
abbrev MN17 : MethodName := ⟨"java/lang/String", "charAt", "(I)C"⟩
abbrev MN21 : MethodName := ⟨"com/example/arbiter/arbiter/Name", "<init>", "(Ljava/lang/String;)V"⟩
abbrev MN22 : MethodName := ⟨"java/lang/String", "<init>", "([C)V"⟩
abbrev MN27 : MethodName := ⟨"com/example/arbiter/arbiter/OrdinalTable", "<init>", "(I)V"⟩
abbrev MN28 : MethodName := ⟨"com/example/arbiter/arbiter/OrdinalTable", "put", "(Lcom/example/arbiter/arbiter/Name;Ljava/lang/Object;[I)V"⟩
abbrev MN29 : MethodName := ⟨"com/example/arbiter/arbiter/Name", "toString", "()Ljava/lang/String;"⟩
abbrev MN30 : MethodName := ⟨"com/example/arbiter/arbiter/OrdinalTable", "put", "(Ljava/lang/String;Ljava/lang/String;Ljava/lang/Object;[I)V"⟩
abbrev MN31 : MethodName := ⟨"com/example/arbiter/arbiter/OrdinalTable", "hash", "(Ljava/lang/String;Ljava/lang/String;)I"⟩
abbrev MN32 : MethodName := ⟨"com/example/arbiter/arbiter/OrdinalTable", "mixText", "(ILjava/lang/String;)I"⟩
abbrev MN33 : MethodName := ⟨"com/example/arbiter/arbiter/OrdinalTable", "word", "(Ljava/lang/String;I)I"⟩
abbrev MN34 : MethodName := ⟨"com/example/arbiter/arbiter/OrdinalTable", "find", "(ILjava/lang/String;Ljava/lang/String;)I"⟩
abbrev MN35 : MethodName := ⟨"com/example/arbiter/arbiter/OrdinalTable", "emptySlot", "(I)I"⟩
abbrev MN36 : MethodName := ⟨"com/example/arbiter/arbiter/OrdinalTable", "write", "(Ljava/lang/String;Ljava/lang/String;[I)I"⟩
abbrev MN37 : MethodName := ⟨"com/example/arbiter/arbiter/OrdinalTable", "textLength", "(Ljava/lang/String;)I"⟩
abbrev MN38 : MethodName := ⟨"com/example/arbiter/arbiter/OrdinalTable", "writeText", "(ILjava/lang/String;)I"⟩
abbrev MN39 : MethodName := ⟨"com/example/arbiter/arbiter/OrdinalTable", "packWhereMostlyUnused", "()V"⟩
abbrev MN40 : MethodName := ⟨"com/example/arbiter/arbiter/OrdinalTable", "find", "(Lcom/example/arbiter/arbiter/Name;)I"⟩
abbrev MN41 : MethodName := ⟨"com/example/arbiter/arbiter/OrdinalTable", "find", "(Ljava/lang/String;Ljava/lang/String;)I"⟩
abbrev MN42 : MethodName := ⟨"com/example/arbiter/arbiter/OrdinalTable", "matches", "(ILjava/lang/String;Ljava/lang/String;)Z"⟩
abbrev MN43 : MethodName := ⟨"com/example/arbiter/arbiter/OrdinalTable", "matchesText", "(ILjava/lang/String;)I"⟩
abbrev MN44 : MethodName := ⟨"com/example/arbiter/arbiter/OrdinalTableOrdinalPinLaw", "at", "(IIIII)I"⟩
abbrev MN45 : MethodName := ⟨"com/example/arbiter/arbiter/OrdinalTable", "ordinal", "(II)I"⟩
theorem own_nat (n k : Nat) : (n &&& 2 ^ k = 0) ↔ (n / 2 ^ k) % 2 = 0 := by
  constructor
  · intro h
    have : (n &&& 2 ^ k).testBit k = false := by rw [h]; simp
    rw [Nat.testBit_and, Nat.testBit_two_pow_self, Bool.and_true, Nat.testBit_eq_decide_div_mod_eq] at this
    have := of_decide_eq_false this
    omega
  · intro h
    apply Nat.eq_of_testBit_eq
    intro i
    rw [Nat.testBit_and, Nat.zero_testBit, Nat.testBit_two_pow]
    by_cases e : k = i
    · subst e
      rw [Nat.testBit_eq_decide_div_mod_eq]
      simp [h]
    · simp [e]
theorem own_pow32 (x m : Int32) (k : Nat) (hm : m.toBitVec.toNat = 2 ^ k) : (x &&& m = 0) ↔ (x.toBitVec.toNat / 2 ^ k) % 2 = 0 := by
  have e1 : (x &&& m).toBitVec.toNat = x.toBitVec.toNat &&& 2 ^ k := by
    show (x.toBitVec &&& m.toBitVec).toNat = _
    rw [BitVec.toNat_and, hm]
  have e2 : (x &&& m = 0) ↔ (x &&& m).toBitVec.toNat = 0 := by
    rw [← Int32.toBitVec_inj, ← BitVec.toNat_inj]; rfl
  rw [e2, e1, own_nat]
theorem own_tn32 (x : Int32) : (x.toBitVec.toNat : Int) = x.toInt % 4294967296 := by
  have h := BitVec.toInt_eq_toNat_bmod x.toBitVec
  show (x.toBitVec.toNat : Int) = x.toBitVec.toInt % 4294967296
  have h2 := x.toBitVec.isLt
  have h3 := bm32 (x.toBitVec.toNat : Int)
  rw [h]
  omega
theorem own_dist (a b c : Int32) : ((a ^^^ b) &&& c) = ((a &&& c) ^^^ (b &&& c)) := by
  apply Int32.toBitVec_inj.mp
  show (a.toBitVec ^^^ b.toBitVec) &&& c.toBitVec = (a.toBitVec &&& c.toBitVec) ^^^ (b.toBitVec &&& c.toBitVec)
  apply BitVec.eq_of_getLsbD_eq
  intro i hi
  simp only [BitVec.getLsbD_and, BitVec.getLsbD_xor]
  cases a.toBitVec.getLsbD i <;> cases b.toBitVec.getLsbD i <;> cases c.toBitVec.getLsbD i <;> rfl
theorem own_disto (a b c : Int32) : ((a ||| b) &&& c) = ((a &&& c) ||| (b &&& c)) := by
  apply Int32.toBitVec_inj.mp
  show (a.toBitVec ||| b.toBitVec) &&& c.toBitVec = (a.toBitVec &&& c.toBitVec) ||| (b.toBitVec &&& c.toBitVec)
  apply BitVec.eq_of_getLsbD_eq
  intro i hi
  simp only [BitVec.getLsbD_and, BitVec.getLsbD_or]
  cases a.toBitVec.getLsbD i <;> cases b.toBitVec.getLsbD i <;> cases c.toBitVec.getLsbD i <;> rfl
theorem own_pick {v : Option Value} {c : Prop} [Decidable c] (h : (v = some (.int 1) ∧ c) ∨ (v = some (.int 0) ∧ ¬ c)) : v = some (.int (if c then (1 : Int32) else (0 : Int32))) := by
  rcases h with ⟨rfl, q⟩ | ⟨rfl, q⟩
  · rw [if_pos q]
  · rw [if_neg q]
def own_vs (cs : List Int32) : List Value := cs.map fun c => Value.int (StrChars.lo8 c)
def own_cv (cs : List Int32) : List Value := cs.map Value.int
theorem own_cvset (cs : List Int32) (i : Nat) (c : Int32) : (own_cv cs).set i (.int c) = own_cv (cs.set i c) := by unfold own_cv; rw [List.map_set]
theorem own_cvlen (cs : List Int32) : (own_cv cs).length = cs.length := by unfold own_cv; rw [List.length_map]
theorem own_i2c {c : Int32} (h : ¬ c < 0 ∧ ¬ (255 : Int32) < c) : c.toUInt32.toUInt16.toUInt32.toInt32 = c := by
  have e := c_mask c 255 8 (by decide) (by decide)
  have q : c &&& 255 = c := by
    rw [Int32.lt_iff_toInt_lt, Int32.lt_iff_toInt_lt] at h
    simp only [Int32.reduceToInt] at h
    rw [← Int32.toInt_inj, e]
    omega
  have f := i2c_mask c
  rw [q] at f
  exact f
theorem own_narc {c : Int32} (h : ¬ c < 0 ∧ ¬ (255 : Int32) < c) : nar .char c = c := own_i2c h
theorem own_narb (c : Int32) : nar .byte (c.toInt8.toInt32) = c.toInt8.toInt32 := by
  show (c.toInt8.toInt32).toInt8.toInt32 = c.toInt8.toInt32
  rw [Int8.toInt8_toInt32]
theorem own_cod {cs : List Int32} {n : Int32} (hn : n = Int32.ofNat cs.length) (hr : ∀ c ∈ cs, ¬ c < 0 ∧ ¬ (255 : Int32) < c) : StrChars.Road.CodA cs 0 n (own_vs cs) := Or.inl ⟨rfl, hn, rfl, fun c hc => (hr c hc).2⟩
theorem own_wid {cs : List Int32} (hr : ∀ c ∈ cs, ¬ c < 0 ∧ ¬ (255 : Int32) < c) : ∀ c ∈ cs, ¬ c < 0 ∧ ¬ (65535 : Int32) < c := by
  intro c hc
  have q := hr c hc
  rw [Int32.lt_iff_toInt_lt, Int32.lt_iff_toInt_lt] at q ⊢
  simp only [Int32.reduceToInt] at q ⊢
  omega
theorem own_mask8 (x : Int32) : ¬ (x &&& (255 : Int32)) < 0 ∧ ¬ (255 : Int32) < (x &&& (255 : Int32)) := by
  have e := c_mask x 255 8 (by decide) (by decide)
  rw [Int32.lt_iff_toInt_lt, Int32.lt_iff_toInt_lt]
  simp only [Int32.reduceToInt]
  omega
def own_g (L : List Int32) (j : Int32) : Int32 := L.getD j.toNatClampNeg 0
def own_s (L : List Int32) (j v : Int32) : List Int32 := L.set j.toNatClampNeg v
theorem own_cvg (L : List Int32) (j : Int32) : (own_cv L).getD j.toNatClampNeg (.int 0) = .int (own_g L j) := by
  unfold own_cv own_g
  simp only [List.getD_eq_getElem?_getD, List.getElem?_map]
  cases L[j.toNatClampNeg]? <;> rfl
theorem own_cvs {L : List Int32} {j v : Int32} : (own_cv L).set j.toNatClampNeg (.int v) = own_cv (own_s L j v) := own_cvset L _ v
theorem own_sl (L : List Int32) (j v : Int32) : (own_s L j v).length = L.length := by unfold own_s; rw [List.length_set]
theorem own_ltp {c : Cell} {n j : Int32} {L : List Int32} (S : c.slots.size = n.toNatClampNeg) (h : ¬ (j < 0 ∨ c.slots.size ≤ j.toNatClampNeg)) (hl : L.length = n.toNatClampNeg) : j.toNatClampNeg < (own_cv L).length := by
  rw [own_cvlen, hl, ← S]
  exact Nat.lt_of_not_le fun q => h (Or.inr q)
theorem own_gs {L : List Int32} {j v : Int32} (k : Nat) (h : j.toNatClampNeg < L.length) : (own_s L j v).getD k 0 = if k = j.toNatClampNeg then v else L.getD k 0 := by
  unfold own_s
  simp only [List.getD_eq_getElem?_getD, List.getElem?_set]
  by_cases q : k = j.toNatClampNeg
  · subst q; simp [h]
  · rw [if_neg (fun e => q e.symm), if_neg q]
theorem own_ad {x y : Int32} (hx : 0 ≤ x.toInt ∧ x.toInt < 1000) (hy : 0 ≤ y.toInt ∧ y.toInt < 1000) : (x + y).toInt = x.toInt + y.toInt := by
  have := c_iadd x y
  have := (x + y).toInt_lt
  have := (x + y).le_toInt
  omega
theorem own_tn (x : Int32) : x.toNatClampNeg = x.toInt.toNat := rfl
theorem own_one1 : (1 : Int32).toInt = 1 := rfl
theorem own_in {x m : Int32} (h : 0 ≤ x.toInt ∧ x.toInt < m.toInt) : ¬ x < 0 ∧ x < m := by
  rw [Int32.lt_iff_toInt_lt, Int32.lt_iff_toInt_lt]
  simp only [Int32.reduceToInt]
  omega
theorem own_m7 (h : Int32) : 0 ≤ (h &&& (7 : Int32)).toInt ∧ (h &&& (7 : Int32)).toInt < 8 := by
  have e := c_mask h 7 3 (by decide) (by decide)
  omega
theorem own_2s {s : Int32} (h : 0 ≤ s.toInt ∧ s.toInt < 8) : ((2 : Int32) * s).toInt = 2 * s.toInt ∧ (((2 : Int32) * s) + (1 : Int32)).toInt = 2 * s.toInt + 1 := by
  have e : ((2 : Int32) * s).toInt = 2 * s.toInt := by
    have c := c_imul 2 s
    have := ((2 : Int32) * s).toInt_lt
    have := ((2 : Int32) * s).le_toInt
    rw [show (2 : Int32).toInt = 2 from rfl] at c
    omega
  refine ⟨e, ?_⟩
  rw [own_ad (by omega) (by decide), e]; rfl
theorem own_i0 {s : Int32} (h : 0 ≤ s.toInt ∧ s.toInt < 8) : ¬ ((2 : Int32) * s) < 0 ∧ ((2 : Int32) * s) < 16 := own_in (by rw [(own_2s h).1, show (16 : Int32).toInt = 16 from rfl]; omega)
theorem own_i1 {s : Int32} (h : 0 ≤ s.toInt ∧ s.toInt < 8) : ¬ (((2 : Int32) * s) + (1 : Int32)) < 0 ∧ (((2 : Int32) * s) + (1 : Int32)) < 16 := own_in (by rw [(own_2s h).2, show (16 : Int32).toInt = 16 from rfl]; omega)
theorem own_gsI {L : List Int32} {j k v : Int32} (hj : j.toNatClampNeg < L.length) (h0 : 0 ≤ j.toInt) (h1 : 0 ≤ k.toInt) : own_g (own_s L j v) k = if k = j then v else own_g L k := by
  unfold own_g
  rw [own_gs _ hj]
  by_cases q : k = j
  · subst q; rw [if_pos rfl, if_pos rfl]
  · rw [if_neg q, if_neg (fun e => q ?_)]
    rw [own_tn, own_tn] at e
    rw [← Int32.toInt_inj]; omega
/-- a slot's two ints written -/
def own_w2 (SL : List Int32) (s h r : Int32) : List Int32 := own_s (own_s SL ((2 : Int32) * s) h) (((2 : Int32) * s) + (1 : Int32)) r
theorem own_w2l {SL : List Int32} {s h r : Int32} : (own_w2 SL s h r).length = SL.length := by unfold own_w2; rw [own_sl, own_sl]
theorem own_ne2 {a b : Int32} (h : ¬ a.toInt = b.toInt) : ¬ a = b := fun e => h (by rw [e])
theorem own_w2a {SL : List Int32} {s h r : Int32} (hl : SL.length = 16) (hs : 0 ≤ s.toInt ∧ s.toInt < 8) : own_g (own_w2 SL s h r) ((2 : Int32) * s) = h ∧ own_g (own_w2 SL s h r) (((2 : Int32) * s) + (1 : Int32)) = r := by
  obtain ⟨e1, e2⟩ := own_2s hs
  have b1 : ((2 : Int32) * s).toNatClampNeg < SL.length := by rw [own_tn, hl]; omega
  have b2 : (((2 : Int32) * s) + (1 : Int32)).toNatClampNeg < (own_s SL ((2 : Int32) * s) h).length := by rw [own_sl, own_tn, hl]; omega
  unfold own_w2
  constructor
  · rw [own_gsI b2 (by omega) (by omega), if_neg (own_ne2 (by omega)), own_gsI b1 (by omega) (by omega), if_pos rfl]
  · rw [own_gsI b2 (by omega) (by omega), if_pos rfl]
theorem own_w2b {SL : List Int32} {s h r k : Int32} (hl : SL.length = 16) (hs : 0 ≤ s.toInt ∧ s.toInt < 8) (hk : 0 ≤ k.toInt ∧ k.toInt < 8) (hne : ¬ k = s) : own_g (own_w2 SL s h r) ((2 : Int32) * k) = own_g SL ((2 : Int32) * k) ∧ own_g (own_w2 SL s h r) (((2 : Int32) * k) + (1 : Int32)) = own_g SL (((2 : Int32) * k) + (1 : Int32)) := by
  obtain ⟨e1, e2⟩ := own_2s hs
  obtain ⟨f1, f2⟩ := own_2s hk
  have ne : ¬ k.toInt = s.toInt := fun e => hne (Int32.toInt_inj.mp e)
  have b1 : ((2 : Int32) * s).toNatClampNeg < SL.length := by rw [own_tn, hl]; omega
  have b2 : (((2 : Int32) * s) + (1 : Int32)).toNatClampNeg < (own_s SL ((2 : Int32) * s) h).length := by rw [own_sl, own_tn, hl]; omega
  unfold own_w2
  constructor
  · rw [own_gsI b2 (by omega) (by omega), if_neg (own_ne2 (by omega)), own_gsI b1 (by omega) (by omega), if_neg (own_ne2 (by omega))]
  · rw [own_gsI b2 (by omega) (by omega), if_neg (own_ne2 (by omega)), own_gsI b1 (by omega) (by omega), if_neg (own_ne2 (by omega))]
/-- ordinals copied into the records -/
def own_cp (L : List Int32) (d : Int32) (O : List Int32) : List Int32 := L.take d.toNatClampNeg ++ O ++ L.drop (d.toNatClampNeg + O.length)
theorem own_cpl {L O : List Int32} {d : Int32} (h : d.toNatClampNeg + O.length ≤ L.length) : (own_cp L d O).length = L.length := by
  unfold own_cp
  simp only [List.length_append, List.length_take, List.length_drop]
  omega
theorem own_cpg {L O : List Int32} {d : Int32} (k : Nat) (h : d.toNatClampNeg + O.length ≤ L.length) : (own_cp L d O).getD k 0 = if d.toNatClampNeg ≤ k ∧ k < d.toNatClampNeg + O.length then O.getD (k - d.toNatClampNeg) 0 else L.getD k 0 := by
  unfold own_cp
  simp only [List.getD_eq_getElem?_getD, List.append_assoc]
  have lt : (L.take d.toNatClampNeg).length = d.toNatClampNeg := by rw [List.length_take]; omega
  by_cases q1 : k < d.toNatClampNeg
  · rw [List.getElem?_append_left (by omega), if_neg (by omega), List.getElem?_take, if_pos q1]
  · rw [List.getElem?_append_right (by omega), lt]
    by_cases q2 : k < d.toNatClampNeg + O.length
    · rw [if_pos ⟨by omega, q2⟩, List.getElem?_append_left (by omega)]
    · rw [if_neg (by omega), List.getElem?_append_right (by omega), List.getElem?_drop]
      congr 2
      omega
theorem own_us (O : List Int32) {n : Int32} (h : O.length = n.toNatClampNeg) : own_cv O = (List.range n.toNatClampNeg).map fun i => (own_cv O).getD ((0 : Int32).toNatClampNeg + i) (.int 0) := by
  apply List.ext_getElem
  · rw [List.length_map, List.length_range, own_cvlen, h]
  · intro i h1 h2
    rw [List.getElem_map, List.getElem_range]
    simp only [show (0 : Int32).toNatClampNeg = 0 from rfl, Nat.zero_add, List.getD_eq_getElem?_getD, List.getElem?_eq_getElem h1, Option.getD_some]
theorem own_cpv (L O : List Int32) (d : Int32) {n : Int32} (h : O.length = n.toNatClampNeg) : (own_cv L).take d.toNatClampNeg ++ own_cv O ++ (own_cv L).drop (d.toNatClampNeg + n.toNatClampNeg) = own_cv (own_cp L d O) := by
  unfold own_cp own_cv
  rw [← h]
  simp only [List.map_append, List.map_take, List.map_drop]
/-- a record: its count, its ordinals, the text's length and word, no second text -/
def own_R (RL : List Int32) (r n : Int32) (OL : List Int32) (t w : Int32) : Prop := own_g RL r = n ∧ (∀ i : Int32, 0 ≤ i.toInt → i.toInt < n.toInt → own_g RL ((r + (1 : Int32)) + i) = own_g OL i) ∧ own_g RL ((r + (1 : Int32)) + n) = t ∧ own_g RL (((r + (1 : Int32)) + n) + (1 : Int32)) = w ∧ own_g RL ((((r + (1 : Int32)) + n) + (1 : Int32)) + (1 : Int32)) = 0
def own_wr (RL : List Int32) (u n : Int32) (OL : List Int32) (t w : Int32) : List Int32 := own_s (own_s (own_s (own_cp (own_s RL u n) (u + (1 : Int32)) OL) ((u + (1 : Int32)) + n) t) (((u + (1 : Int32)) + n) + (1 : Int32)) w) ((((u + (1 : Int32)) + n) + (1 : Int32)) + (1 : Int32)) 0
theorem own_bd {u n : Int32} (hu : 0 < u.toInt ∧ u.toInt < 20) (hn : 0 < n.toInt ∧ n.toInt < 5) : (u + (1 : Int32)).toInt = u.toInt + 1 ∧ ((u + (1 : Int32)) + n).toInt = u.toInt + 1 + n.toInt ∧ (((u + (1 : Int32)) + n) + (1 : Int32)).toInt = u.toInt + 2 + n.toInt ∧ ((((u + (1 : Int32)) + n) + (1 : Int32)) + (1 : Int32)).toInt = u.toInt + 3 + n.toInt ∧ (((((u + (1 : Int32)) + n) + (1 : Int32)) + (1 : Int32)) + (1 : Int32)).toInt = u.toInt + 4 + n.toInt := by
  have o : (1 : Int32).toInt = 1 := rfl
  have e1 : (u + (1 : Int32)).toInt = u.toInt + 1 := by rw [own_ad (by omega) (by omega), o]
  have e2 : ((u + (1 : Int32)) + n).toInt = u.toInt + 1 + n.toInt := by rw [own_ad (by omega) (by omega), e1]
  have e3 : (((u + (1 : Int32)) + n) + (1 : Int32)).toInt = u.toInt + 2 + n.toInt := by rw [own_ad (by omega) (by omega), e2, o]; omega
  have e4 : ((((u + (1 : Int32)) + n) + (1 : Int32)) + (1 : Int32)).toInt = u.toInt + 3 + n.toInt := by rw [own_ad (by omega) (by omega), e3, o]; omega
  refine ⟨e1, e2, e3, e4, ?_⟩
  rw [own_ad (by omega) (by omega), e4, o]; omega
theorem own_wrl {RL OL : List Int32} {u n t w : Int32} (hl : RL.length = 64) (hu : 0 < u.toInt ∧ u.toInt < 20) (hn : 0 < n.toInt ∧ n.toInt < 5) (hO : OL.length = n.toNatClampNeg) : (own_wr RL u n OL t w).length = 64 ∧ (own_cp (own_s RL u n) (u + (1 : Int32)) OL).length = 64 := by
  obtain ⟨e1, e2, e3, e4, -⟩ := own_bd hu hn
  have e : (own_cp (own_s RL u n) (u + (1 : Int32)) OL).length = 64 := by
    rw [own_cpl (by rw [own_sl, hl, hO, own_tn, own_tn]; omega), own_sl, hl]
  unfold own_wr
  exact ⟨by rw [own_sl, own_sl, own_sl, e], e⟩
theorem own_wrg {RL OL : List Int32} {u n t w : Int32} (k : Nat) (hl : RL.length = 64) (hu : 0 < u.toInt ∧ u.toInt < 20) (hn : 0 < n.toInt ∧ n.toInt < 5) (hO : OL.length = n.toNatClampNeg) : (own_wr RL u n OL t w).getD k 0 = if k = u.toInt.toNat + 3 + n.toInt.toNat then 0 else if k = u.toInt.toNat + 2 + n.toInt.toNat then w else if k = u.toInt.toNat + 1 + n.toInt.toNat then t else if u.toInt.toNat + 1 ≤ k ∧ k < u.toInt.toNat + 1 + n.toInt.toNat then OL.getD (k - (u.toInt.toNat + 1)) 0 else if k = u.toInt.toNat then n else RL.getD k 0 := by
  obtain ⟨e1, e2, e3, e4, -⟩ := own_bd hu hn
  obtain ⟨-, l1⟩ := own_wrl (t := t) (w := w) hl hu hn hO
  unfold own_wr
  rw [own_gs k (by rw [own_sl, own_sl, l1, own_tn]; omega), own_gs k (by rw [own_sl, l1, own_tn]; omega), own_gs k (by rw [l1, own_tn]; omega), own_cpg k (by rw [own_sl, hl, hO, own_tn, own_tn]; omega), own_gs k (by rw [hl, own_tn]; omega), hO]
  simp only [own_tn, e1, e2, e3, e4]
  rw [show (u.toInt + 3 + n.toInt).toNat = u.toInt.toNat + 3 + n.toInt.toNat from by omega, show (u.toInt + 2 + n.toInt).toNat = u.toInt.toNat + 2 + n.toInt.toNat from by omega, show (u.toInt + 1 + n.toInt).toNat = u.toInt.toNat + 1 + n.toInt.toNat from by omega, show (u.toInt + 1).toNat = u.toInt.toNat + 1 from by omega]
theorem own_wrR {RL OL : List Int32} {u n t w : Int32} (hl : RL.length = 64) (hu : 0 < u.toInt ∧ u.toInt < 20) (hn : 0 < n.toInt ∧ n.toInt < 5) (hO : OL.length = n.toNatClampNeg) : own_R (own_wr RL u n OL t w) u n OL t w := by
  obtain ⟨e1, e2, e3, e4, -⟩ := own_bd hu hn
  refine ⟨?_, fun i h1 h2 => ?_, ?_, ?_, ?_⟩
  · unfold own_g; rw [own_wrg _ hl hu hn hO, own_tn, if_neg (by omega), if_neg (by omega), if_neg (by omega), if_neg (by omega), if_pos (by omega)]
  · have e : ((u + (1 : Int32)) + i).toInt = u.toInt + 1 + i.toInt := by rw [own_ad (by omega) (by omega), e1]
    unfold own_g
    rw [own_wrg _ hl hu hn hO, own_tn, e, if_neg (by omega), if_neg (by omega), if_neg (by omega), if_pos (by omega), own_tn]
    congr 1
    omega
  · unfold own_g; rw [own_wrg _ hl hu hn hO, own_tn, e2, if_neg (by omega), if_neg (by omega), if_pos (by omega)]
  · unfold own_g; rw [own_wrg _ hl hu hn hO, own_tn, e3, if_neg (by omega), if_pos (by omega)]
  · unfold own_g; rw [own_wrg _ hl hu hn hO, own_tn, e4, if_pos (by omega)]
theorem own_wrk {RL OL : List Int32} {u n t w : Int32} (hl : RL.length = 64) (hu : 0 < u.toInt ∧ u.toInt < 20) (hn : 0 < n.toInt ∧ n.toInt < 5) (hO : OL.length = n.toNatClampNeg) : ∀ j : Int32, 0 ≤ j.toInt → j.toInt < u.toInt → own_g (own_wr RL u n OL t w) j = own_g RL j := by
  intro j h1 h2
  unfold own_g
  rw [own_wrg _ hl hu hn hO, own_tn, if_neg (by omega), if_neg (by omega), if_neg (by omega), if_neg (by omega), if_neg (by omega)]
theorem own_Rk {RL RL2 OL : List Int32} {r n u t w : Int32} (R : own_R RL r n OL t w) (hr : 0 < r.toInt ∧ r.toInt < 20) (hn : 0 < n.toInt ∧ n.toInt < 5) (hu : u.toInt = r.toInt + 4 + n.toInt) (k : ∀ j : Int32, 0 ≤ j.toInt → j.toInt < u.toInt → own_g RL2 j = own_g RL j) : own_R RL2 r n OL t w := by
  obtain ⟨e1, e2, e3, e4, -⟩ := own_bd hr hn
  obtain ⟨a, b, c, d, e⟩ := R
  refine ⟨by rw [k _ (by omega) (by omega)]; exact a, fun i h1 h2 => ?_, by rw [k _ (by omega) (by omega)]; exact c, by rw [k _ (by omega) (by omega)]; exact d, by rw [k _ (by omega) (by omega)]; exact e⟩
  have q : ((r + (1 : Int32)) + i).toInt = r.toInt + 1 + i.toInt := by rw [own_ad (by omega) (by omega), e1]
  rw [k _ (by omega) (by omega)]
  exact b i h1 h2
def own_sl2 (h s : Int32) : Int32 := if (h &&& (7 : Int32)) = s then ((s + (1 : Int32)) &&& (7 : Int32)) else (h &&& (7 : Int32))
theorem own_nx {s : Int32} (hs : 0 ≤ s.toInt ∧ s.toInt < 8) : ¬ ((s + (1 : Int32)) &&& (7 : Int32)) = s := by
  have e := c_mask (s + 1) 7 3 (by decide) (by decide)
  have a := own_ad (x := s) (y := 1) (by omega) (by decide)
  apply own_ne2
  rw [e, a]
  simp only [Int32.reduceToInt]
  omega
theorem own_sl2r (h s : Int32) : 0 ≤ (own_sl2 h s).toInt ∧ (own_sl2 h s).toInt < 8 := by
  unfold own_sl2
  split
  · exact own_m7 _
  · exact own_m7 _
theorem own_sl2n {h s : Int32} (hs : 0 ≤ s.toInt ∧ s.toInt < 8) : ¬ own_sl2 h s = s := by
  unfold own_sl2
  split
  · exact own_nx hs
  · assumption
def own_mix (h l w : Int32) : Int32 := (((((h ^^^ l) ^^^ w) * (-1640531535 : Int32)) ^^^ (((((h ^^^ l) ^^^ w) * (-1640531535 : Int32)).toUInt32 >>> ((15 : Int32) &&& 31).toUInt32).toInt32)) * (-1640531535 : Int32))
def own_hash (h l w : Int32) : Int32 := ((((own_mix h l w) ^^^ (((own_mix h l w).toUInt32 >>> ((16 : Int32) &&& 31).toUInt32).toInt32)) * (-2048144789 : Int32)) ^^^ ((((((own_mix h l w) ^^^ (((own_mix h l w).toUInt32 >>> ((16 : Int32) &&& 31).toUInt32).toInt32)) * (-2048144789 : Int32))).toUInt32 >>> ((13 : Int32) &&& 31).toUInt32).toInt32))
theorem own_nz {args : Array Value} {s : State} {t : Term} {x : Int32} (h : (Jvm.Cond.not (Jvm.Cond.eq t (.int 0))).value args s none s [] = some true) (e : t.eval args s none [] s = some (.int x)) : ¬ (x = (0 : Int32)) := by
  have q := not_v h
  simpa [Jvm.Cond.value, e, Term.eval] using q
theorem d3_0 : decode jdk_43_method_3_code 0 = .ok (.iload_n 0, 1) := by decide +kernel
theorem d3_1 : decode jdk_43_method_3_code 1 = .ok (.sipush 255, 3) := by decide +kernel
theorem d3_4 : decode jdk_43_method_3_code 4 = .ok (.if_icmp .gt 7, 3) := by decide +kernel
theorem d3_7 : decode jdk_43_method_3_code 7 = .ok (.iconst 1, 1) := by decide +kernel
theorem d3_8 : decode jdk_43_method_3_code 8 = .ok (.goto 4, 3) := by decide +kernel
theorem d3_12 : decode jdk_43_method_3_code 12 = .ok (.ireturn, 1) := by decide +kernel
theorem pn_java_lang_StringLatin1 : plainName "java/lang/StringLatin1" = true := by first | (simp [plainName, overriddenIn]; done) | decide +kernel
theorem ef_rm3 (m : MethodId) (x0 : Int32) : entryFrame m #[(.int x0)] 1 = mkF m 0 #[iv x0] [] := by first | (simp [entryFrame, mkF, argsToLocals, Value.category]; done) | rfl
def Q_rm3 (Z : State) (p3_0 : Int32) (h0 : Heap) (n0 : Nat) (v : Option Value) (h : Heap) (L : List Loc) : Prop := v = some (.int 1) ∧ Fr n0 L ∧ h = h0
set_option maxRecDepth 65536 in
set_option maxHeartbeats 40000000 in
theorem rm3 (l : Launch) (Z : State) (a0 : Array Value) (hw : ∀ d ∈ tables_1, d.before a0 Z = true) (ws : List Jvm.Cond) (p3_0 : Int32) (h0 : Heap) (n0 : Nat) (Z0 : n0 ≤ h0.size) (hle : ¬ p3_0 < 0 ∧ ¬ (255 : Int32) < p3_0) :
    MetFree l MN3 (head1 (Jvm.Cond.code MN3 jdk_43_method_3_code 1 (some .boolean) :: ws) (Room.mk 0 0 0 0)) (fun a U => a = #[(.int p3_0)] ∧ Z.Warmed39 U.vm ∧ U.heap = h0) (fun _ _ _ _ _ => True) (fun _ U o U' => ∃ v L, o = .returned v ∧ Q_rm3 Z p3_0 h0 n0 v U'.heap L ∧ FrameEnd U o U' L (Room.mk 0 0 0 0).cells (Room.mk 0 0 0 0).slots) := by
  refine MetFree.of_bodySF (plainFor_of_name pn_java_lang_StringLatin1) hisR ?_
  intro p e s m args below meth c s₁ Bd hml0 hP hK
  obtain ⟨rfl, hZ, hh⟩ := hP
  have hx := Bd.exec
  have hby := Bd.bytes
  have hml : c.maxLocals = 1 := hml0
  have hown : s.vm.findClass "java/lang/StringLatin1" = some m.cls := findClass_of_methodNamed Bd.named
  have hnm := (name_of_methodNamed Bd.named Bd.method).1
  have X0 : Stand p l e (Room.mk 0 0 0 0) s m #[(.int p3_0)] below meth c s₁ [] 0 0 := Stand.of_body Bd
  have e0 : s₁.heap = h0 := by rw [← hh, Bd.state]; rfl
  have N0 := Fr.nil n0
  have pre0 : ∀ t, Steps p.tables e below (s₁.setTop (mkF m 0 #[iv p3_0] [])) t → Steps p.tables e below (s₁.setTop (entryFrame m #[(.int p3_0)] 1)) t := fun t k => castTop (ef_rm3 m p3_0) k
  have hc1 : ¬ ((255 : Int32) < p3_0) := hle.2
  obtain ⟨fs, hr, hrun, hended, hW, hsame⟩ := X0.leave (v := some (.int 1)) (fun h => by rw [Bd.returns] at h; cases h)
  refine ⟨_, _, pre0 _ ?_, hrun, hended, _, _, rfl, ?_, ⟨_, rfl⟩, hW, hsame.mono (by decide) (by decide)⟩
  · show Steps _ _ _ (State.setTop _ (mkF m 0 #[iv p3_0] [])) _
    refine XS.iloadN X0.here hx rfl (hb hby d3_0) rfl ?_
    show Steps _ _ _ (State.setTop _ (mkF m 1 #[iv p3_0] [(.int p3_0)])) _
    refine XS.sipush X0.here hx rfl (hb hby d3_1) ?_
    refine XS.icmpNo X0.here hx rfl (hb hby d3_4) rfl (flt hc1).2.2.1 ?_
    refine XS.iconst X0.here hx rfl (hb hby d3_7) ?_
    refine XS.goto X0.here hx rfl (pc0 := 8) (pc' := 12) rfl (hb hby d3_8) (by decide) (by decide) ?_
    show Steps _ _ _ (State.setTop _ (mkF m 12 #[iv p3_0] [(.int 1)])) _
    exact retN X0 hx (t := .boolean) Bd.returns (by simp) (hb hby d3_12) hr
  · show Q_rm3 Z _ h0 n0 _ s₁.heap _
    rw [e0]
    exact ⟨rfl, N0, rfl⟩
theorem d4_0 : decode jdk_43_method_46_code 0 = .ok (.iconst 1, 1) := by decide +kernel
theorem d4_1 : decode jdk_43_method_46_code 1 = .ok (.newarray .byte, 2) := by decide +kernel
theorem d4_3 : decode jdk_43_method_46_code 3 = .ok (.dup, 1) := by decide +kernel
theorem d4_4 : decode jdk_43_method_46_code 4 = .ok (.iconst 0, 1) := by decide +kernel
theorem d4_5 : decode jdk_43_method_46_code 5 = .ok (.iload_n 0, 1) := by decide +kernel
theorem d4_6 : decode jdk_43_method_46_code 6 = .ok (.i2b, 1) := by decide +kernel
theorem d4_7 : decode jdk_43_method_46_code 7 = .ok (.bastore, 1) := by decide +kernel
theorem d4_8 : decode jdk_43_method_46_code 8 = .ok (.areturn, 1) := by decide +kernel
theorem ef_rm4 (m : MethodId) (x0 : Int32) : entryFrame m #[(.int x0)] 1 = mkF m 0 #[iv x0] [] := by first | (simp [entryFrame, mkF, argsToLocals, Value.category]; done) | rfl
def Q_rm4 (Z : State) (p4_0 : Int32) (h0 : Heap) (n0 : Nat) (v : Option Value) (h : Heap) (L : List Loc) : Prop := ∃ (b : Addr), v = some (.ref b) ∧ Fr n0 L ∧ Keep h0 h [] ∧ (h0.size ≤ b) ∧ (Av Z h b .byte (1 : Int32) (own_vs [p4_0]) (.int 0))
set_option maxRecDepth 65536 in
set_option maxHeartbeats 40000000 in
theorem rm4 (l : Launch) (Z : State) (a0 : Array Value) (hw : ∀ d ∈ tables_1, d.before a0 Z = true) (ws : List Jvm.Cond) (p4_0 : Int32) (h0 : Heap) (n0 : Nat) (Z0 : n0 ≤ h0.size) :
    MetFree l MN4 (head1 (Jvm.Cond.code MN4 jdk_43_method_46_code 1 (some (.array .byte)) :: ws) (Room.mk 0 1 1 0)) (fun a U => a = #[(.int p4_0)] ∧ Z.Warmed39 U.vm ∧ U.heap = h0) (fun _ _ _ _ _ => True) (fun _ U o U' => ∃ v L, o = .returned v ∧ Q_rm4 Z p4_0 h0 n0 v U'.heap L ∧ FrameEnd U o U' L (Room.mk 0 1 1 0).cells (Room.mk 0 1 1 0).slots) := by
  refine MetFree.of_bodySF (plainFor_of_name pn_java_lang_StringLatin1) hisR ?_
  intro p e s m args below meth c s₁ Bd hml0 hP hK
  obtain ⟨rfl, hZ, hh⟩ := hP
  have hx := Bd.exec
  have hby := Bd.bytes
  have hml : c.maxLocals = 1 := hml0
  have hown : s.vm.findClass "java/lang/StringLatin1" = some m.cls := findClass_of_methodNamed Bd.named
  have hnm := (name_of_methodNamed Bd.named Bd.method).1
  have X0 : Stand p l e (Room.mk 0 1 1 0) s m #[(.int p4_0)] below meth c s₁ [] 0 0 := Stand.of_body Bd
  have e0 : s₁.heap = h0 := by rw [← hh, Bd.state]; rfl
  have N0 := Fr.nil n0
  have pre0 : ∀ t, Steps p.tables e below (s₁.setTop (mkF m 0 #[iv p4_0] [])) t → Steps p.tables e below (s₁.setTop (entryFrame m #[(.int p4_0)] 1)) t := fun t k => castTop (ef_rm4 m p4_0) k
  have wo21 := hw _ (own_m 21 rfl)
  obtain ⟨T1, h1, k1, X1, e1, E1, A1, st1⟩ := newP (aty := .byte) X0 hx hZ wo21 e0 (g := (mkF m 1 #[iv p4_0] [(.int 1)])) rfl (hb hby d4_1) rfl (by decide) (cap := 1) (by decide) (by decide) (by decide) (by decide)
  obtain ⟨b1, gg1⟩ : ∃ z, z = h0.size := ⟨_, rfl⟩
  rw [← gg1] at A1 st1
  have g2 : n0 ≤ b1 := Nat.le_trans Z0 (Nat.le_of_eq gg1.symm)
  have bz3 : h0.size ≤ b1 := Nat.le_trans (Keep.refl h0 []).1 (Nat.le_of_eq gg1.symm)
  have K5 : Keep h0 h1 [] := (Keep.refl h0 []).ext E1
  have f4 : Av Z h1 b1 .byte (1 : Int32) [(.int 0)] (.int 0) := ⟨_, (Arv.new A1 (by decide)).pad (pad_rep [] (.int 0) 1)⟩
  obtain ⟨kk6, cl6, Ar6, qq6, Sz6, Nn6, Hs6, Gf6⟩ := id f4
  have hin7 : ¬ ((0 : Int32) < 0 ∨ cl6.slots.size ≤ ((0 : Int32)).toNatClampNeg) := inb_of Sz6 ⟨by decide, by decide⟩
  obtain ⟨T8, h8, X8, e8, W8, st8⟩ := stB X1 hx hZ e1 Ar6 (j := 0) hin7 (g := (mkF m 7 #[iv p4_0] [(.int (p4_0.toInt8.toInt32)), (.int 0), (.ref b1), (.ref b1)])) rfl rfl (hb hby d4_7)
  have K9 : Keep h0 h8 [] := (K5).wr W8 (Or.inr bz3)
  have f10 : Av Z h8 b1 .byte (1 : Int32) [(.int (nar .byte (p4_0.toInt8.toInt32)))] (.int 0) := ⟨_, Arv.set Ar6 qq6 Sz6 Nn6 Hs6 Gf6 (by first | rfl | exact fits_nar_byte _) W8 0 rfl (Nat.le_of_ble_eq_true rfl)⟩
  have N11 := Fr.snoc X8 N0 g2
  have q12 : (nar .byte (p4_0.toInt8.toInt32)) = (p4_0.toInt8.toInt32) := own_narb _
  have f13 : Av Z h8 b1 .byte (1 : Int32) [(.int (p4_0.toInt8.toInt32))] (.int 0) := by rw [← q12]; exact f10
  obtain ⟨fs, hr, hrun, hended, hW, hsame⟩ := X8.leave (v := some (.ref b1)) (fun h => by rw [Bd.returns] at h; cases h)
  refine ⟨_, _, pre0 _ ?_, hrun, hended, _, _, rfl, ?_, ⟨_, rfl⟩, hW, hsame.mono (by decide) (by decide)⟩
  · show Steps _ _ _ (State.setTop _ (mkF m 0 #[iv p4_0] [])) _
    refine XS.iconst X0.here hx rfl (hb hby d4_0) ?_
    show Steps _ _ _ (State.setTop _ (mkF m 1 #[iv p4_0] [(.int 1)])) _
    refine st1 _ ?_
    refine XS.dup X1.here hx rfl (hb hby d4_3) rfl rfl ?_
    refine XS.iconst X1.here hx rfl (hb hby d4_4) ?_
    refine XS.iloadN X1.here hx rfl (hb hby d4_5) rfl ?_
    refine XS.i2b X1.here hx rfl (hb hby d4_6) rfl ?_
    refine st8 _ ?_
    show Steps _ _ _ (State.setTop _ (mkF m 8 #[iv p4_0] [(.ref b1)])) _
    show Steps _ _ _ (State.setTop _ (mkF m 8 #[iv p4_0] [(.ref b1)])) _
    exact retOut X8 hx Bd.returns rfl (Or.inr (Or.inr (Or.inr (Or.inr ⟨rfl, rfl, rfl⟩)))) (hb hby d4_8) hr
  · show Q_rm4 Z _ h0 n0 _ T8.heap _
    rw [e8]
    exact ⟨b1, rfl, N11, (K9), bz3, f13⟩
theorem d5_0 : decode jdk_42_method_151_code 0 = .ok (.aload_n 0, 1) := by decide +kernel
theorem d5_1 : decode jdk_42_method_151_code 1 = .ok (.invokespecial 1, 3) := by decide +kernel
theorem d5_4 : decode jdk_42_method_151_code 4 = .ok (.aload_n 0, 1) := by decide +kernel
theorem d5_5 : decode jdk_42_method_151_code 5 = .ok (.aload_n 1, 1) := by decide +kernel
theorem d5_6 : decode jdk_42_method_151_code 6 = .ok (.putfield 9, 3) := by decide +kernel
theorem d5_9 : decode jdk_42_method_151_code 9 = .ok (.aload_n 0, 1) := by decide +kernel
theorem d5_10 : decode jdk_42_method_151_code 10 = .ok (.iload_n 2, 1) := by decide +kernel
theorem d5_11 : decode jdk_42_method_151_code 11 = .ok (.putfield 15, 3) := by decide +kernel
theorem d5_14 : decode jdk_42_method_151_code 14 = .ok (.return_, 1) := by decide +kernel
theorem pn_java_lang_String : plainName "java/lang/String" = true := by first | (simp [plainName, overriddenIn]; done) | decide +kernel
theorem ef_rm5 (m : MethodId) (x0 x1 : Addr) (x2 : Int32) : entryFrame m #[(.ref x0), (.ref x1), (.int x2)] 3 = mkF m 0 #[rv x0, rv x1, iv x2] [] := by first | (simp [entryFrame, mkF, argsToLocals, Value.category]; done) | rfl
def Q_rm5 (Z : State) (a5_0 bs : Addr) (h0 : Heap) (n0 : Nat) (v : Option Value) (h : Heap) (L : List Loc) : Prop := v = none ∧ Fr n0 L ∧ Keep h0 h [a5_0] ∧ (Fld Z h a5_0 "java/lang/String" "value" "[B" (.ref bs)) ∧ (Fld Z h a5_0 "java/lang/String" "coder" "B" (.int 0))
set_option maxRecDepth 65536 in
set_option maxHeartbeats 40000000 in
theorem rm5 (l : Launch) (Z : State) (a0 : Array Value) (hw : ∀ d ∈ tables_1, d.before a0 Z = true) (ws : List Jvm.Cond) (a5_0 bs : Addr) (h0 : Heap) (n0 : Nat) (Z0 : n0 ≤ h0.size) (pf_E_a5_0 : Exa Z h0 a5_0 "java/lang/String") (pf_G_a5_0 : n0 ≤ a5_0) (pf_F_a5_0_value : Fld Z h0 a5_0 "java/lang/String" "value" "[B" .null) (pf_F_a5_0_coder : Fld Z h0 a5_0 "java/lang/String" "coder" "B" (.int 0)) :
    MetFree l MN5 (head1 (Jvm.Cond.code MN5 jdk_42_method_151_code 3 none :: ws) (Room.mk 1 0 0 12)) (fun a U => a = #[(.ref a5_0), (.ref bs), (.int 0)] ∧ Z.Warmed39 U.vm ∧ U.heap = h0) (fun _ _ _ _ _ => True) (fun _ U o U' => ∃ v L, o = .returned v ∧ Q_rm5 Z a5_0 bs h0 n0 v U'.heap L ∧ FrameEnd U o U' L (Room.mk 1 0 0 12).cells (Room.mk 1 0 0 12).slots) := by
  refine MetFree.of_bodySF (plainFor_of_name pn_java_lang_String) hisR ?_
  intro p e s m args below meth c s₁ Bd hml0 hP hK
  obtain ⟨rfl, hZ, hh⟩ := hP
  have hx := Bd.exec
  have hby := Bd.bytes
  have hml : c.maxLocals = 3 := hml0
  have hown : s.vm.findClass "java/lang/String" = some m.cls := findClass_of_methodNamed Bd.named
  have hnm := (name_of_methodNamed Bd.named Bd.method).1
  have X0 : Stand p l e (Room.mk 1 0 0 12) s m #[(.ref a5_0), (.ref bs), (.int 0)] below meth c s₁ [] 0 0 := Stand.of_body Bd
  have e0 : s₁.heap = h0 := by rw [← hh, Bd.state]; rfl
  have N0 := Fr.nil n0
  have pre0 : ∀ t, Steps p.tables e below (s₁.setTop (mkF m 0 #[rv a5_0, rv bs, iv 0] [])) t → Steps p.tables e below (s₁.setTop (entryFrame m #[(.ref a5_0), (.ref bs), (.int 0)] 3)) t := fun t k => castTop (ef_rm5 m a5_0 bs (0 : Int32)) k
  have wo17 := hw _ (own_m 17 rfl)
  have wo26 := hw _ (own_m 26 rfl)
  have wo27 := hw _ (own_m 27 rfl)
  have wo28 := hw _ (own_m 28 rfl)
  have wo29 := hw _ (own_m 29 rfl)
  have wo30 := hw _ (own_m 30 rfl)
  have wo31 := hw _ (own_m 31 rfl)
  have wo32 := hw _ (own_m 32 rfl)
  obtain ⟨T1, X1, e1, st1⟩ := initO X0 hx hZ hown wo26 wo27 wo28 e0 (g := (mkF m 1 #[rv a5_0, rv bs, iv 0] [(.ref a5_0)])) rfl (by rw [hml]; rfl) rfl (hb hby d5_1) (by decide) (W := 0) (by show 2 * 0 + _ ≤ _; exact Nat.le_of_eq rfl) (by decide)
  obtain ⟨T2, h2, X2, e2, W2, st2⟩ := putF X1 hx hZ hown (host := "") (Or.inl wo29) Via.refl e1 pf_F_a5_0_value pf_E_a5_0 (Or.inr ⟨wo30, rfl, hnm⟩) wo17 (ty := (.array .byte)) (by decide) rfl rfl (g := (mkF m 6 #[rv a5_0, rv bs, iv 0] [(.ref bs), (.ref a5_0)])) rfl rfl (hb hby d5_6)
  have K3 : Keep h0 h2 [a5_0] := (Keep.refl h0 [a5_0]).wr W2 (Or.inl (own_m 0 rfl))
  have f4 : Fld Z h2 a5_0 "java/lang/String" "value" "[B" (.ref bs) := pf_F_a5_0_value.same W2
  have N5 := Fr.snoc X2 N0 pf_G_a5_0
  have f6 := (pf_F_a5_0_coder.other W2 (Or.inr (slot_ne (Or.inr wo32) (Or.inr wo30) (by decide) (t := .byte) (t' := (.array .byte)) (by decide) (by decide))))
  have f7 := (pf_E_a5_0.wr W2)
  obtain ⟨T8, h8, X8, e8, W8, st8⟩ := putFN X2 hx hZ hown wo31 Via.refl e2 f6 f7 (Or.inr ⟨wo32, rfl, hnm⟩) wo17 (ty := .byte) (v' := (.int 0)) (by decide) rfl (by first | rfl | exact fits_nar_byte _) (g := (mkF m 11 #[rv a5_0, rv bs, iv 0] [(.int 0), (.ref a5_0)])) rfl rfl (hb hby d5_11)
  have K9 : Keep h0 h8 [a5_0] := (K3).wr W8 (Or.inl (own_m 0 rfl))
  have f10 : Fld Z h8 a5_0 "java/lang/String" "coder" "B" (.int 0) := f6.same W8
  have N11 := Fr.snoc X8 N5 pf_G_a5_0
  have f12 := (f4.other W8 (Or.inr (slot_ne (Or.inr wo30) (Or.inr wo32) (by decide) (t := (.array .byte)) (t' := .byte) (by decide) (by decide))))
  obtain ⟨fs, hr, hrun, hended, hW, hsame⟩ := X8.leave (v := none) (fun _ => rfl)
  refine ⟨_, _, pre0 _ ?_, hrun, hended, _, _, rfl, ?_, ⟨_, rfl⟩, hW, hsame.mono (by decide) (by decide)⟩
  · show Steps _ _ _ (State.setTop _ (mkF m 0 #[rv a5_0, rv bs, iv 0] [])) _
    refine XS.aloadN X0.here hx rfl (hb hby d5_0) rfl rfl ?_
    show Steps _ _ _ (State.setTop _ (mkF m 1 #[rv a5_0, rv bs, iv 0] [(.ref a5_0)])) _
    refine st1 _ ?_
    refine XS.aloadN X1.here hx rfl (hb hby d5_4) rfl rfl ?_
    refine XS.aloadN X1.here hx rfl (hb hby d5_5) rfl rfl ?_
    refine st2 _ ?_
    refine XS.aloadN X2.here hx rfl (hb hby d5_9) rfl rfl ?_
    refine XS.iloadN X2.here hx rfl (hb hby d5_10) rfl ?_
    refine st8 _ ?_
    show Steps _ _ _ (State.setTop _ (mkF m 14 #[rv a5_0, rv bs, iv 0] [])) _
    exact X8.returnOut hx Bd.returns (hb hby d5_14) hr
  · show Q_rm5 Z _ _ h0 n0 _ T8.heap _
    rw [e8]
    exact ⟨rfl, N11, (K9), f12, f10⟩
theorem d2_0 : decode jdk_42_method_139_code 0 = .ok (.getstatic 38, 3) := by decide +kernel
theorem d2_3 : decode jdk_42_method_139_code 3 = .ok (.ifCond .eq 23, 3) := by decide +kernel
theorem d2_6 : decode jdk_42_method_139_code 6 = .ok (.iload_n 0, 1) := by decide +kernel
theorem pd_6 : parseMethodDescriptor "(C)Z" = some ⟨[.char], some .boolean⟩ := by decide +kernel
theorem d2_7 : decode jdk_42_method_139_code 7 = .ok (.invokestatic 1015, 3) := by decide +kernel
theorem d2_10 : decode jdk_42_method_139_code 10 = .ok (.ifCond .eq 16, 3) := by decide +kernel
theorem d2_13 : decode jdk_42_method_139_code 13 = .ok (.new 10, 3) := by decide +kernel
theorem d2_16 : decode jdk_42_method_139_code 16 = .ok (.dup, 1) := by decide +kernel
theorem d2_17 : decode jdk_42_method_139_code 17 = .ok (.iload_n 0, 1) := by decide +kernel
theorem pd_7 : parseMethodDescriptor "(C)[B" = some ⟨[.char], some (.array .byte)⟩ := by decide +kernel
theorem d2_18 : decode jdk_42_method_139_code 18 = .ok (.invokestatic 1018, 3) := by decide +kernel
theorem d2_21 : decode jdk_42_method_139_code 21 = .ok (.iconst 0, 1) := by decide +kernel
theorem pd_32 : parseMethodDescriptor "([BB)V" = some ⟨[(.array .byte), .byte], none⟩ := by decide +kernel
theorem d2_22 : decode jdk_42_method_139_code 22 = .ok (.invokespecial 209, 3) := by decide +kernel
theorem d2_25 : decode jdk_42_method_139_code 25 = .ok (.areturn, 1) := by decide +kernel
theorem ef_rm2 (m : MethodId) (x0 : Int32) : entryFrame m #[(.int x0)] 1 = mkF m 0 #[iv x0] [] := by first | (simp [entryFrame, mkF, argsToLocals, Value.category]; done) | rfl
def Q_rm2 (Z : State) (ch cs : Int32) (h0 : Heap) (n0 : Nat) (v : Option Value) (h : Heap) (L : List Loc) : Prop := ∃ (r : Addr) (b : Addr), v = some (.ref r) ∧ Fr n0 L ∧ Keep h0 h [] ∧ (h0.size ≤ r) ∧ (h0.size ≤ b) ∧ (r ≠ b) ∧ (Exa Z h r "java/lang/String") ∧ (Fld Z h r "java/lang/String" "value" "[B" (.ref b)) ∧ (Fld Z h r "java/lang/String" "coder" "B" (.int 0)) ∧ (Av Z h b .byte (1 : Int32) (own_vs [ch]) (.int 0))
set_option maxRecDepth 65536 in
set_option maxHeartbeats 40000000 in
theorem rm2 (l : Launch) (Z : State) (a0 : Array Value) (hw : ∀ d ∈ tables_1, d.before a0 Z = true) (ws : List Jvm.Cond) (ch cs : Int32) (h0 : Heap) (n0 : Nat) (Z0 : n0 ≤ h0.size) (pf_O : Old Z n0 h0) (pS_COMPAC : Sta Z Z.heap "java/lang/String" "COMPACT_STRINGS" "Z" (.int cs)) (hcs : ¬ (cs = 0)) (hle : ¬ ch < 0 ∧ ¬ (255 : Int32) < ch) :
    MetFree l MN2 (head1 (Jvm.Cond.code MN2 jdk_42_method_139_code 1 (some (.object "java/lang/String")) :: ws) (Room.mk 2 2 5 27)) (fun a U => a = #[(.int ch)] ∧ Z.Warmed39 U.vm ∧ U.heap = h0) (fun _ _ _ _ _ => True) (fun _ U o U' => ∃ v L, o = .returned v ∧ Q_rm2 Z ch cs h0 n0 v U'.heap L ∧ FrameEnd U o U' L (Room.mk 2 2 5 27).cells (Room.mk 2 2 5 27).slots) := by
  refine MetFree.of_bodySF (plainFor_of_name pn_java_lang_String) hisR ?_
  intro p e s m args below meth c s₁ Bd hml0 hP hK
  obtain ⟨rfl, hZ, hh⟩ := hP
  have hx := Bd.exec
  have hby := Bd.bytes
  have hml : c.maxLocals = 1 := hml0
  have hown : s.vm.findClass "java/lang/String" = some m.cls := findClass_of_methodNamed Bd.named
  have hnm := (name_of_methodNamed Bd.named Bd.method).1
  have X0 : Stand p l e (Room.mk 2 2 5 27) s m #[(.int ch)] below meth c s₁ [] 0 0 := Stand.of_body Bd
  have e0 : s₁.heap = h0 := by rw [← hh, Bd.state]; rfl
  have N0 := Fr.nil n0
  have pre0 : ∀ t, Steps p.tables e below (s₁.setTop (mkF m 0 #[iv ch] [])) t → Steps p.tables e below (s₁.setTop (entryFrame m #[(.int ch)] 1)) t := fun t k => castTop (ef_rm2 m ch) k
  have wo9 := hw _ (own_m 9 rfl)
  have wo11 := hw _ (own_m 11 rfl)
  have wo12 := hw _ (own_m 12 rfl)
  have wo13 := hw _ (own_m 13 rfl)
  have wo14 := hw _ (own_m 14 rfl)
  have wo15 := hw _ (own_m 15 rfl)
  have wo16 := hw _ (own_m 16 rfl)
  have wo17 := hw _ (own_m 17 rfl)
  have wo18 := hw _ (own_m 18 rfl)
  have wo19 := hw _ (own_m 19 rfl)
  have wo20 := hw _ (own_m 20 rfl)
  have wo22 := hw _ (own_m 22 rfl)
  have wo23 := hw _ (own_m 23 rfl)
  have wo25 := hw _ (own_m 25 rfl)
  have wo30 := hw _ (own_m 30 rfl)
  have wo32 := hw _ (own_m 32 rfl)
  obtain ⟨T1, X1, e1, st1⟩ := getS2 X0 hx hZ hown (host := "") (Or.inl wo11) Via.refl e0 (pS_COMPAC.ext pf_O.2) (g := (mkF m 0 #[iv ch] [])) rfl (hb hby d2_0)
  obtain ⟨_, _, ⟨T2, L2, k2, n2⟩, -, X2, ⟨Lc2, hQ2, l2, y2, z2⟩, st2⟩ := Jvm.LawKit.callS X1 hx (y := MN3) hown (mvT hZ wo12) (mvT hZ wo13) (mvT hZ wo14) (mvT hZ wo15) (by decide) (backOf (W := 0) (rm3 l Z a0 hw [] ch h0 n0 Z0 hle) hZ wo15 wo14 (by decide) (by decide)) (g := (mkF m 7 #[iv ch] [(.int ch)])) rfl (by rw [hml]; rfl) (argsL := [(.int ch)]) (rest := []) (lenOf pd_6 rfl) rfl (by show 2 * 0 + _ ≤ _; exact Nat.le_of_eq rfl) (hb hby d2_7) (fun _ _ => ⟨rfl, e1, (by decide : 0 + 0 ≤ _), (by decide : 0 + 0 ≤ _)⟩)
  dsimp only [Pt.U, Pt.locs, Pt.cells, Pt.slots] at X2 l2 y2 z2 st2 hQ2
  rw [l2, y2, z2] at X2
  obtain ⟨rfl, N2q, K2q⟩ := hQ2
  have N3 := Fr.app N0 N2q
  obtain ⟨T4, h4, X4, e4, E4, A4, D4, -, st4⟩ := newO X2 hx hZ hown wo16 wo17 wo9 K2q (g := (mkF m 13 #[iv ch] [])) rfl (hb hby d2_13) (by decide) (by decide)
  obtain ⟨b4, gg4⟩ : ∃ z, z = h0.size := ⟨_, rfl⟩
  rw [← gg4] at A4 D4 st4
  have g5 : n0 ≤ b4 := Nat.le_trans Z0 (Nat.le_of_eq gg4.symm)
  have bz6 : h0.size ≤ b4 := Nat.le_trans (Keep.refl h0 []).1 (Nat.le_of_eq gg4.symm)
  have K7 : Keep h0 h4 [] := (Keep.refl h0 []).ext E4
  have f8 : Fld Z h4 b4 "java/lang/String" "value" "[B" .null := D4 (Or.inr wo30) (ty := (.array .byte)) (by decide)
  have f9 : Fld Z h4 b4 "java/lang/String" "coder" "B" (.int 0) := D4 (Or.inr wo32) (ty := .byte) (by decide)
  have f11 := (Nat.le_trans Z0 E4.1)
  obtain ⟨_, _, ⟨T10, L10, k10, n10⟩, -, X10, ⟨Lc10, hQ10, l10, y10, z10⟩, st10⟩ := Jvm.LawKit.callS X4 hx (y := MN4) hown (mvT hZ wo18) (mvT hZ wo19) (mvT hZ wo14) (mvT hZ wo20) (by decide) (backOf (W := 2) (rm4 l Z a0 hw [] ch h4 n0 f11 ) hZ wo20 wo14 (by decide) (by decide)) (g := (mkF m 18 #[iv ch] [(.int ch), (.ref b4), (.ref b4)])) rfl (by rw [hml]; rfl) (argsL := [(.int ch)]) (rest := [(.ref b4), (.ref b4)]) (lenOf pd_7 rfl) rfl (by show 2 * 0 + _ ≤ _; exact Nat.le_of_eq rfl) (hb hby d2_18) (fun _ _ => ⟨rfl, e4, (by decide : 1 + 1 ≤ _), (by decide : 4 + 1 ≤ _)⟩)
  dsimp only [Pt.U, Pt.locs, Pt.cells, Pt.slots] at X10 l10 y10 z10 st10 hQ10
  rw [l10, y10, z10] at X10
  obtain ⟨b_10, rfl, N10q, K10q, hq10_0, hq10_1⟩ := hQ10
  have N12 := Fr.app N3 N10q
  have ne13 : b4 ≠ b_10 := Nat.ne_of_lt (Nat.lt_of_lt_of_le A4.lt hq10_0)
  have g14 : n0 ≤ b_10 := Nat.le_trans f11 hq10_0
  have bz15 : h0.size ≤ b_10 := Nat.le_trans (K7).1 hq10_0
  have K16 : Keep h0 T10.heap [] := (K7).trans K10q all0
  have f17 := (A4.keep K10q)
  have f18 := (f8.keep K10q nin0)
  have f19 := (f9.keep K10q nin0)
  have f21 := (Nat.le_trans f11 K10q.1)
  obtain ⟨_, _, ⟨T20, L20, k20, n20⟩, -, X20, ⟨Lc20, hQ20, l20, y20, z20⟩, st20⟩ := X10.specialBack hx (y := MN5) rfl hown (mvT hZ wo22) (mvT hZ wo23) (mvT hZ wo25) (by decide) (backOf (W := 1) (rm5 l Z a0 hw [] b4 b_10 (T10.heap) n0 f21 f17 g5 f18 f19) hZ wo25 wo9 (by decide) (by decide)) (g := (mkF m 22 #[iv ch] [(.int 0), (.ref b_10), (.ref b4), (.ref b4)])) rfl (by rw [hml]; rfl) (Steps.refl _) (a := b4) (argsL := [(.ref b_10), (.int 0)]) (rest := [(.ref b4)]) (lenOf pd_32 rfl) rfl (by show 2 * 0 + _ ≤ _; exact Nat.le_of_eq rfl) (hb hby d2_22) (fun _ _ => ⟨rfl, rfl, (by decide : 2 + 0 ≤ _), (by decide : 5 + 0 ≤ _)⟩)
  dsimp only [Pt.U, Pt.locs, Pt.cells, Pt.slots] at X20 l20 y20 z20 st20 hQ20
  rw [l20, y20, z20] at X20
  obtain ⟨rfl, N20q, K20q, hq20_0, hq20_1⟩ := hQ20
  have N22 := Fr.app N12 N20q
  have K23 : Keep h0 T20.heap [] := (K16).trans K20q (allS (P := fun x => x ∈ [] ∨ h0.size ≤ x) (Or.inr bz6) all0)
  have f24 := (f17.keep K20q)
  have f25 := (hq10_1.keep K20q (ninS (Ne.symm ne13) nin0))
  obtain ⟨fs, hr, hrun, hended, hW, hsame⟩ := X20.leave (v := some (.ref b4)) (fun h => by rw [Bd.returns] at h; cases h)
  refine ⟨_, _, pre0 _ ?_, hrun, hended, _, _, rfl, ?_, ⟨_, rfl⟩, hW, hsame.mono (by decide) (by decide)⟩
  · show Steps _ _ _ (State.setTop _ (mkF m 0 #[iv ch] [])) _
    refine st1 _ ?_
    show Steps _ _ _ (State.setTop _ (mkF m 3 #[iv ch] [(.int cs)])) _
    refine XS.ifNo X1.here hx rfl (hb hby d2_3) rfl ((if0 _ _).trans (feq hcs).1) ?_
    refine XS.iloadN X1.here hx rfl (hb hby d2_6) rfl ?_
    refine st2 _ ?_
    refine XS.ifNo X2.here hx rfl (hb hby d2_10) rfl ((if0 _ _).trans (feq (by decide : ¬ ((1 : Int32) = 0))).1) ?_
    refine st4 _ ?_
    refine XS.dup X4.here hx rfl (hb hby d2_16) rfl rfl ?_
    refine XS.iloadN X4.here hx rfl (hb hby d2_17) rfl ?_
    refine st10 _ ?_
    refine XS.iconst X10.here hx rfl (hb hby d2_21) ?_
    show Steps _ _ _ (State.setTop _ (mkF m 22 #[iv ch] [(.int 0), (.ref b_10), (.ref b4), (.ref b4)])) _
    refine st20.trans ?_
    show Steps _ _ _ (State.setTop _ (mkF m 25 #[iv ch] [(.ref b4)])) _
    exact retOut X20 hx Bd.returns rfl (Or.inr (Or.inr (Or.inr (Or.inr ⟨rfl, rfl, rfl⟩)))) (hb hby d2_25) hr
  · show Q_rm2 Z _ _ h0 n0 _ T20.heap _
    exact ⟨b4, b_10, rfl, N22, (K23), bz6, bz15, ne13, f24, hq20_0, hq20_1, f25⟩
def own_pk (a b c d n : Int32) : List Int32 := if n = 1 then [a] else if n = 2 then [a, b] else if n = 3 then [a, b, c] else [a, b, c, d]
def own_at (a b c d i : Int32) : Int32 := if i = 0 then a else if i = 1 then b else if i = 2 then c else d
theorem own_pkl {a b c d n : Int32} (h : 0 < n.toInt ∧ n.toInt < 5) : (own_pk a b c d n).length = n.toNatClampNeg := by
  have q : n = 1 ∨ n = 2 ∨ n = 3 ∨ n = 4 := by
    simp only [← Int32.toInt_inj, Int32.reduceToInt]; omega
  rcases q with rfl | rfl | rfl | rfl <;> rfl
theorem own_pka {a b c d n i : Int32} (h : 0 < n.toInt ∧ n.toInt < 5) (h0 : 0 ≤ i.toInt) (h1 : i.toInt < n.toInt) : own_g (own_pk a b c d n) i = own_at a b c d i := by
  have q : n = 1 ∨ n = 2 ∨ n = 3 ∨ n = 4 := by
    simp only [← Int32.toInt_inj, Int32.reduceToInt]; omega
  have q2 : i = 0 ∨ i = 1 ∨ i = 2 ∨ i = 3 := by
    simp only [← Int32.toInt_inj, Int32.reduceToInt]; omega
  rcases q with rfl | rfl | rfl | rfl <;> rcases q2 with rfl | rfl | rfl | rfl <;> first | rfl | (exact absurd h1 (by decide))
theorem own_n4 {n : Int32} (h : 0 < n.toInt ∧ n.toInt < 5) (h1 : ¬ n = 1) (h2 : ¬ n = 2) (h3 : ¬ n = 3) : n = 4 := by
  simp only [← Int32.toInt_inj, Int32.reduceToInt] at h1 h2 h3 ⊢; omega
theorem d1_0 : decode method_2_code 0 = .ok (.iload 4, 2) := by decide +kernel
theorem d1_2 : decode method_2_code 2 = .ok (.iconst 1, 1) := by decide +kernel
theorem d1_3 : decode method_2_code 3 = .ok (.if_icmp .ne 11, 3) := by decide +kernel
theorem d1_6 : decode method_2_code 6 = .ok (.iconst 1, 1) := by decide +kernel
theorem d1_7 : decode method_2_code 7 = .ok (.newarray .int, 2) := by decide +kernel
theorem d1_9 : decode method_2_code 9 = .ok (.dup, 1) := by decide +kernel
theorem d1_10 : decode method_2_code 10 = .ok (.iconst 0, 1) := by decide +kernel
theorem d1_11 : decode method_2_code 11 = .ok (.iload_n 0, 1) := by decide +kernel
theorem d1_12 : decode method_2_code 12 = .ok (.iastore, 1) := by decide +kernel
theorem d1_13 : decode method_2_code 13 = .ok (.areturn, 1) := by decide +kernel
theorem d1_14 : decode method_2_code 14 = .ok (.iload 4, 2) := by decide +kernel
theorem d1_16 : decode method_2_code 16 = .ok (.iconst 2, 1) := by decide +kernel
theorem d1_17 : decode method_2_code 17 = .ok (.if_icmp .ne 15, 3) := by decide +kernel
theorem d1_20 : decode method_2_code 20 = .ok (.iconst 2, 1) := by decide +kernel
theorem d1_21 : decode method_2_code 21 = .ok (.newarray .int, 2) := by decide +kernel
theorem d1_23 : decode method_2_code 23 = .ok (.dup, 1) := by decide +kernel
theorem d1_24 : decode method_2_code 24 = .ok (.iconst 0, 1) := by decide +kernel
theorem d1_25 : decode method_2_code 25 = .ok (.iload_n 0, 1) := by decide +kernel
theorem d1_26 : decode method_2_code 26 = .ok (.iastore, 1) := by decide +kernel
theorem d1_27 : decode method_2_code 27 = .ok (.dup, 1) := by decide +kernel
theorem d1_28 : decode method_2_code 28 = .ok (.iconst 1, 1) := by decide +kernel
theorem d1_29 : decode method_2_code 29 = .ok (.iload_n 1, 1) := by decide +kernel
theorem d1_30 : decode method_2_code 30 = .ok (.iastore, 1) := by decide +kernel
theorem d1_31 : decode method_2_code 31 = .ok (.areturn, 1) := by decide +kernel
theorem d1_32 : decode method_2_code 32 = .ok (.iload 4, 2) := by decide +kernel
theorem d1_34 : decode method_2_code 34 = .ok (.iconst 3, 1) := by decide +kernel
theorem d1_35 : decode method_2_code 35 = .ok (.if_icmp .ne 19, 3) := by decide +kernel
theorem d1_38 : decode method_2_code 38 = .ok (.iconst 3, 1) := by decide +kernel
theorem d1_39 : decode method_2_code 39 = .ok (.newarray .int, 2) := by decide +kernel
theorem d1_41 : decode method_2_code 41 = .ok (.dup, 1) := by decide +kernel
theorem d1_42 : decode method_2_code 42 = .ok (.iconst 0, 1) := by decide +kernel
theorem d1_43 : decode method_2_code 43 = .ok (.iload_n 0, 1) := by decide +kernel
theorem d1_44 : decode method_2_code 44 = .ok (.iastore, 1) := by decide +kernel
theorem d1_45 : decode method_2_code 45 = .ok (.dup, 1) := by decide +kernel
theorem d1_46 : decode method_2_code 46 = .ok (.iconst 1, 1) := by decide +kernel
theorem d1_47 : decode method_2_code 47 = .ok (.iload_n 1, 1) := by decide +kernel
theorem d1_48 : decode method_2_code 48 = .ok (.iastore, 1) := by decide +kernel
theorem d1_49 : decode method_2_code 49 = .ok (.dup, 1) := by decide +kernel
theorem d1_50 : decode method_2_code 50 = .ok (.iconst 2, 1) := by decide +kernel
theorem d1_51 : decode method_2_code 51 = .ok (.iload_n 2, 1) := by decide +kernel
theorem d1_52 : decode method_2_code 52 = .ok (.iastore, 1) := by decide +kernel
theorem d1_53 : decode method_2_code 53 = .ok (.areturn, 1) := by decide +kernel
theorem d1_54 : decode method_2_code 54 = .ok (.iconst 4, 1) := by decide +kernel
theorem d1_55 : decode method_2_code 55 = .ok (.newarray .int, 2) := by decide +kernel
theorem d1_57 : decode method_2_code 57 = .ok (.dup, 1) := by decide +kernel
theorem d1_58 : decode method_2_code 58 = .ok (.iconst 0, 1) := by decide +kernel
theorem d1_59 : decode method_2_code 59 = .ok (.iload_n 0, 1) := by decide +kernel
theorem d1_60 : decode method_2_code 60 = .ok (.iastore, 1) := by decide +kernel
theorem d1_61 : decode method_2_code 61 = .ok (.dup, 1) := by decide +kernel
theorem d1_62 : decode method_2_code 62 = .ok (.iconst 1, 1) := by decide +kernel
theorem d1_63 : decode method_2_code 63 = .ok (.iload_n 1, 1) := by decide +kernel
theorem d1_64 : decode method_2_code 64 = .ok (.iastore, 1) := by decide +kernel
theorem d1_65 : decode method_2_code 65 = .ok (.dup, 1) := by decide +kernel
theorem d1_66 : decode method_2_code 66 = .ok (.iconst 2, 1) := by decide +kernel
theorem d1_67 : decode method_2_code 67 = .ok (.iload_n 2, 1) := by decide +kernel
theorem d1_68 : decode method_2_code 68 = .ok (.iastore, 1) := by decide +kernel
theorem d1_69 : decode method_2_code 69 = .ok (.dup, 1) := by decide +kernel
theorem d1_70 : decode method_2_code 70 = .ok (.iconst 3, 1) := by decide +kernel
theorem d1_71 : decode method_2_code 71 = .ok (.iload_n 3, 1) := by decide +kernel
theorem d1_72 : decode method_2_code 72 = .ok (.iastore, 1) := by decide +kernel
theorem d1_73 : decode method_2_code 73 = .ok (.areturn, 1) := by decide +kernel
theorem pn_com_example_arbiter_arbiter_OrdinalTableOrdinalPinLaw : plainName "com/example/arbiter/arbiter/OrdinalTableOrdinalPinLaw" = true := by first | (simp [plainName, overriddenIn]; done) | decide +kernel
theorem ef_rm1 (m : MethodId) (x0 x1 x2 x3 x4 : Int32) : entryFrame m #[(.int x0), (.int x1), (.int x2), (.int x3), (.int x4)] 5 = mkF m 0 #[iv x0, iv x1, iv x2, iv x3, iv x4] [] := by first | (simp [entryFrame, mkF, argsToLocals, Value.category]; done) | rfl
def Q_rm1 (Z : State) (p1_0 p1_1 p1_2 p1_3 p1_4 : Int32) (h0 : Heap) (n0 : Nat) (v : Option Value) (h : Heap) (L : List Loc) : Prop := ∃ (r : Addr), v = some (.ref r) ∧ Fr n0 L ∧ Keep h0 h [] ∧ (h0.size ≤ r) ∧ (Av Z h r .int p1_4 (own_cv (own_pk p1_0 p1_1 p1_2 p1_3 p1_4)) (.int 0))
set_option maxRecDepth 65536 in
set_option maxHeartbeats 40000000 in
theorem rm1 (l : Launch) (Z : State) (a0 : Array Value) (hw : ∀ d ∈ tables_1, d.before a0 Z = true) (ws : List Jvm.Cond) (p1_0 p1_1 p1_2 p1_3 p1_4 : Int32) (h0 : Heap) (n0 : Nat) (Z0 : n0 ≤ h0.size) (hn4 : 0 < p1_4.toInt ∧ p1_4.toInt < 5) :
    MetFree l MN1 (head1 (Jvm.Cond.code MN1 method_2_code 5 (some (.array .int)) :: ws) (Room.mk 0 1 4 0)) (fun a U => a = #[(.int p1_0), (.int p1_1), (.int p1_2), (.int p1_3), (.int p1_4)] ∧ Z.Warmed39 U.vm ∧ U.heap = h0) (fun _ _ _ _ _ => True) (fun _ U o U' => ∃ v L, o = .returned v ∧ Q_rm1 Z p1_0 p1_1 p1_2 p1_3 p1_4 h0 n0 v U'.heap L ∧ FrameEnd U o U' L (Room.mk 0 1 4 0).cells (Room.mk 0 1 4 0).slots) := by
  refine MetFree.of_bodySF (plainFor_of_name pn_com_example_arbiter_arbiter_OrdinalTableOrdinalPinLaw) hisR ?_
  intro p e s m args below meth c s₁ Bd hml0 hP hK
  obtain ⟨rfl, hZ, hh⟩ := hP
  have hx := Bd.exec
  have hby := Bd.bytes
  have hml : c.maxLocals = 5 := hml0
  have hown : s.vm.findClass "com/example/arbiter/arbiter/OrdinalTableOrdinalPinLaw" = some m.cls := findClass_of_methodNamed Bd.named
  have hnm := (name_of_methodNamed Bd.named Bd.method).1
  have X0 : Stand p l e (Room.mk 0 1 4 0) s m #[(.int p1_0), (.int p1_1), (.int p1_2), (.int p1_3), (.int p1_4)] below meth c s₁ [] 0 0 := Stand.of_body Bd
  have e0 : s₁.heap = h0 := by rw [← hh, Bd.state]; rfl
  have N0 := Fr.nil n0
  have pre0 : ∀ t, Steps p.tables e below (s₁.setTop (mkF m 0 #[iv p1_0, iv p1_1, iv p1_2, iv p1_3, iv p1_4] [])) t → Steps p.tables e below (s₁.setTop (entryFrame m #[(.int p1_0), (.int p1_1), (.int p1_2), (.int p1_3), (.int p1_4)] 5)) t := fun t k => castTop (ef_rm1 m p1_0 p1_1 p1_2 p1_3 p1_4) k
  have wo6 := hw _ (own_m 6 rfl)
  have pre2 : ∀ t, Steps p.tables e below (s₁.setTop (mkF m 3 #[iv p1_0, iv p1_1, iv p1_2, iv p1_3, iv p1_4] [(.int 1), (.int p1_4)])) t → Steps p.tables e below (s₁.setTop (entryFrame m #[(.int p1_0), (.int p1_1), (.int p1_2), (.int p1_3), (.int p1_4)] 5)) t := by
    intro t_ k_
    refine pre0 _ ?_
    show Steps _ _ _ (State.setTop _ (mkF m 0 #[iv p1_0, iv p1_1, iv p1_2, iv p1_3, iv p1_4] [])) _
    refine XS.iload X0.here hx rfl (hb hby d1_0) rfl ?_
    refine XS.iconst X0.here hx rfl (hb hby d1_2) ?_
    exact k_
  by_cases hc3_1 : p1_4 = 1
  · skip
    obtain ⟨T3, h3, k3, X3, e3, E3, A3, st3⟩ := newP (aty := .int) X0 hx hZ wo6 e0 (g := (mkF m 7 #[iv p1_0, iv p1_1, iv p1_2, iv p1_3, iv p1_4] [(.int 1)])) rfl (hb hby d1_7) rfl (by decide) (cap := 1) (by decide) (by decide) (by decide) (by decide)
    obtain ⟨b3, gg3⟩ : ∃ z, z = h0.size := ⟨_, rfl⟩
    rw [← gg3] at A3 st3
    have g4 : n0 ≤ b3 := Nat.le_trans Z0 (Nat.le_of_eq gg3.symm)
    have bz5 : h0.size ≤ b3 := Nat.le_trans (Keep.refl h0 []).1 (Nat.le_of_eq gg3.symm)
    have K7 : Keep h0 h3 [] := (Keep.refl h0 []).ext E3
    have f6 : Av Z h3 b3 .int 1 [(.int 0)] (.int 0) := ⟨_, (Arv.new A3 (by decide)).pad (pad_rep [] (.int 0) 1)⟩
    obtain ⟨kk8, cl8, Ar8, qq8, Sz8, Nn8, Hs8, Gf8⟩ := id f6
    have hin9 : ¬ ((0 : Int32) < 0 ∨ cl8.slots.size ≤ ((0 : Int32)).toNatClampNeg) := inb_of Sz8 ⟨by decide, by decide⟩
    obtain ⟨T10, h10, X10, e10, W10, st10⟩ := stI X3 hx hZ e3 Ar8 (j := 0) hin9 (g := (mkF m 12 #[iv p1_0, iv p1_1, iv p1_2, iv p1_3, iv p1_4] [(.int p1_0), (.int 0), (.ref b3), (.ref b3)])) rfl rfl (hb hby d1_12)
    have K11 : Keep h0 h10 [] := (K7).wr W10 (Or.inr bz5)
    have f12 : Av Z h10 b3 .int 1 [(.int p1_0)] (.int 0) := ⟨_, Arv.set Ar8 qq8 Sz8 Nn8 Hs8 Gf8 rfl W10 0 rfl (Nat.le_of_ble_eq_true rfl)⟩
    have N13 := Fr.snoc X10 N0 g4
    obtain ⟨fs, hr, hrun, hended, hW, hsame⟩ := X10.leave (v := some (.ref b3)) (fun h => by rw [Bd.returns] at h; cases h)
    refine ⟨_, _, pre2 _ ?_, hrun, hended, _, _, rfl, ?_, ⟨_, rfl⟩, hW, hsame.mono (by decide) (by decide)⟩
    · show Steps _ _ _ (State.setTop _ (mkF m 3 #[iv p1_0, iv p1_1, iv p1_2, iv p1_3, iv p1_4] [(.int 1), (.int p1_4)])) _
      refine XS.icmpNo X0.here hx rfl (hb hby d1_3) rfl (teq hc3_1).2 ?_
      refine XS.iconst X0.here hx rfl (hb hby d1_6) ?_
      refine st3 _ ?_
      refine XS.dup X3.here hx rfl (hb hby d1_9) rfl rfl ?_
      refine XS.iconst X3.here hx rfl (hb hby d1_10) ?_
      refine XS.iloadN X3.here hx rfl (hb hby d1_11) rfl ?_
      refine st10 _ ?_
      show Steps _ _ _ (State.setTop _ (mkF m 13 #[iv p1_0, iv p1_1, iv p1_2, iv p1_3, iv p1_4] [(.ref b3)])) _
      exact retOut X10 hx Bd.returns rfl (Or.inr (Or.inr (Or.inr (Or.inr ⟨rfl, rfl, rfl⟩)))) (hb hby d1_13) hr
    · show Q_rm1 Z _ _ _ _ _ h0 n0 _ T10.heap _
      rw [e10]
      exact ⟨b3, rfl, N13, (K11), bz5, (by rw [(show p1_4 = 1 from hc3_1)]; exact f12)⟩
  · skip
    have pre15 : ∀ t, Steps p.tables e below (s₁.setTop (mkF m 17 #[iv p1_0, iv p1_1, iv p1_2, iv p1_3, iv p1_4] [(.int 2), (.int p1_4)])) t → Steps p.tables e below (s₁.setTop (entryFrame m #[(.int p1_0), (.int p1_1), (.int p1_2), (.int p1_3), (.int p1_4)] 5)) t := by
      intro t_ k_
      refine pre2 _ ?_
      show Steps _ _ _ (State.setTop _ (mkF m 3 #[iv p1_0, iv p1_1, iv p1_2, iv p1_3, iv p1_4] [(.int 1), (.int p1_4)])) _
      refine XS.icmpYes X0.here hx rfl (pc0 := 3) (pc' := 14) rfl (hb hby d1_3) rfl (feq hc3_1).2 (by decide) (by decide) ?_
      refine XS.iload X0.here hx rfl (hb hby d1_14) rfl ?_
      refine XS.iconst X0.here hx rfl (hb hby d1_16) ?_
      exact k_
    by_cases hc17_14 : p1_4 = 2
    · skip
      obtain ⟨T16, h16, k16, X16, e16, E16, A16, st16⟩ := newP (aty := .int) X0 hx hZ wo6 e0 (g := (mkF m 21 #[iv p1_0, iv p1_1, iv p1_2, iv p1_3, iv p1_4] [(.int 2)])) rfl (hb hby d1_21) rfl (by decide) (cap := 2) (by decide) (by decide) (by decide) (by decide)
      obtain ⟨b16, gg16⟩ : ∃ z, z = h0.size := ⟨_, rfl⟩
      rw [← gg16] at A16 st16
      have g17 : n0 ≤ b16 := Nat.le_trans Z0 (Nat.le_of_eq gg16.symm)
      have bz18 : h0.size ≤ b16 := Nat.le_trans (Keep.refl h0 []).1 (Nat.le_of_eq gg16.symm)
      have K20 : Keep h0 h16 [] := (Keep.refl h0 []).ext E16
      have f19 : Av Z h16 b16 .int 2 [(.int 0), (.int 0)] (.int 0) := ⟨_, (Arv.new A16 (by decide)).pad (pad_rep [] (.int 0) 2)⟩
      obtain ⟨kk21, cl21, Ar21, qq21, Sz21, Nn21, Hs21, Gf21⟩ := id f19
      have hin22 : ¬ ((0 : Int32) < 0 ∨ cl21.slots.size ≤ ((0 : Int32)).toNatClampNeg) := inb_of Sz21 ⟨by decide, by decide⟩
      obtain ⟨T23, h23, X23, e23, W23, st23⟩ := stI X16 hx hZ e16 Ar21 (j := 0) hin22 (g := (mkF m 26 #[iv p1_0, iv p1_1, iv p1_2, iv p1_3, iv p1_4] [(.int p1_0), (.int 0), (.ref b16), (.ref b16)])) rfl rfl (hb hby d1_26)
      have K24 : Keep h0 h23 [] := (K20).wr W23 (Or.inr bz18)
      have f25 : Av Z h23 b16 .int 2 [(.int p1_0), (.int 0)] (.int 0) := ⟨_, Arv.set Ar21 qq21 Sz21 Nn21 Hs21 Gf21 rfl W23 0 rfl (Nat.le_of_ble_eq_true rfl)⟩
      have N26 := Fr.snoc X23 N0 g17
      obtain ⟨kk27, cl27, Ar27, qq27, Sz27, Nn27, Hs27, Gf27⟩ := id f25
      have hin28 : ¬ ((1 : Int32) < 0 ∨ cl27.slots.size ≤ ((1 : Int32)).toNatClampNeg) := inb_of Sz27 ⟨by decide, by decide⟩
      obtain ⟨T29, h29, X29, e29, W29, st29⟩ := stI X23 hx hZ e23 Ar27 (j := 1) hin28 (g := (mkF m 30 #[iv p1_0, iv p1_1, iv p1_2, iv p1_3, iv p1_4] [(.int p1_1), (.int 1), (.ref b16), (.ref b16)])) rfl rfl (hb hby d1_30)
      have K30 : Keep h0 h29 [] := (K24).wr W29 (Or.inr bz18)
      have f31 : Av Z h29 b16 .int 2 [(.int p1_0), (.int p1_1)] (.int 0) := ⟨_, Arv.set Ar27 qq27 Sz27 Nn27 Hs27 Gf27 rfl W29 1 rfl (Nat.le_of_ble_eq_true rfl)⟩
      have N32 := Fr.snoc X29 N26 g17
      obtain ⟨fs, hr, hrun, hended, hW, hsame⟩ := X29.leave (v := some (.ref b16)) (fun h => by rw [Bd.returns] at h; cases h)
      refine ⟨_, _, pre15 _ ?_, hrun, hended, _, _, rfl, ?_, ⟨_, rfl⟩, hW, hsame.mono (by decide) (by decide)⟩
      · show Steps _ _ _ (State.setTop _ (mkF m 17 #[iv p1_0, iv p1_1, iv p1_2, iv p1_3, iv p1_4] [(.int 2), (.int p1_4)])) _
        refine XS.icmpNo X0.here hx rfl (hb hby d1_17) rfl (teq hc17_14).2 ?_
        refine XS.iconst X0.here hx rfl (hb hby d1_20) ?_
        refine st16 _ ?_
        refine XS.dup X16.here hx rfl (hb hby d1_23) rfl rfl ?_
        refine XS.iconst X16.here hx rfl (hb hby d1_24) ?_
        refine XS.iloadN X16.here hx rfl (hb hby d1_25) rfl ?_
        refine st23 _ ?_
        show Steps _ _ _ (State.setTop _ (mkF m 27 #[iv p1_0, iv p1_1, iv p1_2, iv p1_3, iv p1_4] [(.ref b16)])) _
        refine XS.dup X23.here hx rfl (hb hby d1_27) rfl rfl ?_
        refine XS.iconst X23.here hx rfl (hb hby d1_28) ?_
        refine XS.iloadN X23.here hx rfl (hb hby d1_29) rfl ?_
        refine st29 _ ?_
        show Steps _ _ _ (State.setTop _ (mkF m 31 #[iv p1_0, iv p1_1, iv p1_2, iv p1_3, iv p1_4] [(.ref b16)])) _
        exact retOut X29 hx Bd.returns rfl (Or.inr (Or.inr (Or.inr (Or.inr ⟨rfl, rfl, rfl⟩)))) (hb hby d1_31) hr
      · show Q_rm1 Z _ _ _ _ _ h0 n0 _ T29.heap _
        rw [e29]
        exact ⟨b16, rfl, N32, (K30), bz18, (by rw [(show p1_4 = 2 from hc17_14)]; exact f31)⟩
    · skip
      have pre34 : ∀ t, Steps p.tables e below (s₁.setTop (mkF m 35 #[iv p1_0, iv p1_1, iv p1_2, iv p1_3, iv p1_4] [(.int 3), (.int p1_4)])) t → Steps p.tables e below (s₁.setTop (entryFrame m #[(.int p1_0), (.int p1_1), (.int p1_2), (.int p1_3), (.int p1_4)] 5)) t := by
        intro t_ k_
        refine pre15 _ ?_
        refine XS.icmpYes X0.here hx rfl (pc0 := 17) (pc' := 32) rfl (hb hby d1_17) rfl (feq hc17_14).2 (by decide) (by decide) ?_
        refine XS.iload X0.here hx rfl (hb hby d1_32) rfl ?_
        refine XS.iconst X0.here hx rfl (hb hby d1_34) ?_
        exact k_
      by_cases hc35_33 : p1_4 = 3
      · skip
        obtain ⟨T35, h35, k35, X35, e35, E35, A35, st35⟩ := newP (aty := .int) X0 hx hZ wo6 e0 (g := (mkF m 39 #[iv p1_0, iv p1_1, iv p1_2, iv p1_3, iv p1_4] [(.int 3)])) rfl (hb hby d1_39) rfl (by decide) (cap := 3) (by decide) (by decide) (by decide) (by decide)
        obtain ⟨b35, gg35⟩ : ∃ z, z = h0.size := ⟨_, rfl⟩
        rw [← gg35] at A35 st35
        have g36 : n0 ≤ b35 := Nat.le_trans Z0 (Nat.le_of_eq gg35.symm)
        have bz37 : h0.size ≤ b35 := Nat.le_trans (Keep.refl h0 []).1 (Nat.le_of_eq gg35.symm)
        have K39 : Keep h0 h35 [] := (Keep.refl h0 []).ext E35
        have f38 : Av Z h35 b35 .int 3 [(.int 0), (.int 0), (.int 0)] (.int 0) := ⟨_, (Arv.new A35 (by decide)).pad (pad_rep [] (.int 0) 3)⟩
        obtain ⟨kk40, cl40, Ar40, qq40, Sz40, Nn40, Hs40, Gf40⟩ := id f38
        have hin41 : ¬ ((0 : Int32) < 0 ∨ cl40.slots.size ≤ ((0 : Int32)).toNatClampNeg) := inb_of Sz40 ⟨by decide, by decide⟩
        obtain ⟨T42, h42, X42, e42, W42, st42⟩ := stI X35 hx hZ e35 Ar40 (j := 0) hin41 (g := (mkF m 44 #[iv p1_0, iv p1_1, iv p1_2, iv p1_3, iv p1_4] [(.int p1_0), (.int 0), (.ref b35), (.ref b35)])) rfl rfl (hb hby d1_44)
        have K43 : Keep h0 h42 [] := (K39).wr W42 (Or.inr bz37)
        have f44 : Av Z h42 b35 .int 3 [(.int p1_0), (.int 0), (.int 0)] (.int 0) := ⟨_, Arv.set Ar40 qq40 Sz40 Nn40 Hs40 Gf40 rfl W42 0 rfl (Nat.le_of_ble_eq_true rfl)⟩
        have N45 := Fr.snoc X42 N0 g36
        obtain ⟨kk46, cl46, Ar46, qq46, Sz46, Nn46, Hs46, Gf46⟩ := id f44
        have hin47 : ¬ ((1 : Int32) < 0 ∨ cl46.slots.size ≤ ((1 : Int32)).toNatClampNeg) := inb_of Sz46 ⟨by decide, by decide⟩
        obtain ⟨T48, h48, X48, e48, W48, st48⟩ := stI X42 hx hZ e42 Ar46 (j := 1) hin47 (g := (mkF m 48 #[iv p1_0, iv p1_1, iv p1_2, iv p1_3, iv p1_4] [(.int p1_1), (.int 1), (.ref b35), (.ref b35)])) rfl rfl (hb hby d1_48)
        have K49 : Keep h0 h48 [] := (K43).wr W48 (Or.inr bz37)
        have f50 : Av Z h48 b35 .int 3 [(.int p1_0), (.int p1_1), (.int 0)] (.int 0) := ⟨_, Arv.set Ar46 qq46 Sz46 Nn46 Hs46 Gf46 rfl W48 1 rfl (Nat.le_of_ble_eq_true rfl)⟩
        have N51 := Fr.snoc X48 N45 g36
        obtain ⟨kk52, cl52, Ar52, qq52, Sz52, Nn52, Hs52, Gf52⟩ := id f50
        have hin53 : ¬ ((2 : Int32) < 0 ∨ cl52.slots.size ≤ ((2 : Int32)).toNatClampNeg) := inb_of Sz52 ⟨by decide, by decide⟩
        obtain ⟨T54, h54, X54, e54, W54, st54⟩ := stI X48 hx hZ e48 Ar52 (j := 2) hin53 (g := (mkF m 52 #[iv p1_0, iv p1_1, iv p1_2, iv p1_3, iv p1_4] [(.int p1_2), (.int 2), (.ref b35), (.ref b35)])) rfl rfl (hb hby d1_52)
        have K55 : Keep h0 h54 [] := (K49).wr W54 (Or.inr bz37)
        have f56 : Av Z h54 b35 .int 3 [(.int p1_0), (.int p1_1), (.int p1_2)] (.int 0) := ⟨_, Arv.set Ar52 qq52 Sz52 Nn52 Hs52 Gf52 rfl W54 2 rfl (Nat.le_of_ble_eq_true rfl)⟩
        have N57 := Fr.snoc X54 N51 g36
        obtain ⟨fs, hr, hrun, hended, hW, hsame⟩ := X54.leave (v := some (.ref b35)) (fun h => by rw [Bd.returns] at h; cases h)
        refine ⟨_, _, pre34 _ ?_, hrun, hended, _, _, rfl, ?_, ⟨_, rfl⟩, hW, hsame.mono (by decide) (by decide)⟩
        · show Steps _ _ _ (State.setTop _ (mkF m 35 #[iv p1_0, iv p1_1, iv p1_2, iv p1_3, iv p1_4] [(.int 3), (.int p1_4)])) _
          refine XS.icmpNo X0.here hx rfl (hb hby d1_35) rfl (teq hc35_33).2 ?_
          refine XS.iconst X0.here hx rfl (hb hby d1_38) ?_
          show Steps _ _ _ (State.setTop _ (mkF m 39 #[iv p1_0, iv p1_1, iv p1_2, iv p1_3, iv p1_4] [(.int 3)])) _
          refine st35 _ ?_
          refine XS.dup X35.here hx rfl (hb hby d1_41) rfl rfl ?_
          refine XS.iconst X35.here hx rfl (hb hby d1_42) ?_
          refine XS.iloadN X35.here hx rfl (hb hby d1_43) rfl ?_
          refine st42 _ ?_
          refine XS.dup X42.here hx rfl (hb hby d1_45) rfl rfl ?_
          refine XS.iconst X42.here hx rfl (hb hby d1_46) ?_
          refine XS.iloadN X42.here hx rfl (hb hby d1_47) rfl ?_
          refine st48 _ ?_
          show Steps _ _ _ (State.setTop _ (mkF m 49 #[iv p1_0, iv p1_1, iv p1_2, iv p1_3, iv p1_4] [(.ref b35)])) _
          refine XS.dup X48.here hx rfl (hb hby d1_49) rfl rfl ?_
          refine XS.iconst X48.here hx rfl (hb hby d1_50) ?_
          refine XS.iloadN X48.here hx rfl (hb hby d1_51) rfl ?_
          refine st54 _ ?_
          show Steps _ _ _ (State.setTop _ (mkF m 53 #[iv p1_0, iv p1_1, iv p1_2, iv p1_3, iv p1_4] [(.ref b35)])) _
          exact retOut X54 hx Bd.returns rfl (Or.inr (Or.inr (Or.inr (Or.inr ⟨rfl, rfl, rfl⟩)))) (hb hby d1_53) hr
        · show Q_rm1 Z _ _ _ _ _ h0 n0 _ T54.heap _
          rw [e54]
          exact ⟨b35, rfl, N57, (K55), bz37, (by rw [(show p1_4 = 3 from hc35_33)]; exact f56)⟩
      · skip
        obtain ⟨T58, h58, k58, X58, e58, E58, A58, st58⟩ := newP (aty := .int) X0 hx hZ wo6 e0 (g := (mkF m 55 #[iv p1_0, iv p1_1, iv p1_2, iv p1_3, iv p1_4] [(.int 4)])) rfl (hb hby d1_55) rfl (by decide) (cap := 4) (by decide) (by decide) (by decide) (by decide)
        obtain ⟨b58, gg58⟩ : ∃ z, z = h0.size := ⟨_, rfl⟩
        rw [← gg58] at A58 st58
        have g59 : n0 ≤ b58 := Nat.le_trans Z0 (Nat.le_of_eq gg58.symm)
        have bz60 : h0.size ≤ b58 := Nat.le_trans (Keep.refl h0 []).1 (Nat.le_of_eq gg58.symm)
        have K62 : Keep h0 h58 [] := (Keep.refl h0 []).ext E58
        have f61 : Av Z h58 b58 .int 4 [(.int 0), (.int 0), (.int 0), (.int 0)] (.int 0) := ⟨_, (Arv.new A58 (by decide)).pad (pad_rep [] (.int 0) 4)⟩
        obtain ⟨kk63, cl63, Ar63, qq63, Sz63, Nn63, Hs63, Gf63⟩ := id f61
        have hin64 : ¬ ((0 : Int32) < 0 ∨ cl63.slots.size ≤ ((0 : Int32)).toNatClampNeg) := inb_of Sz63 ⟨by decide, by decide⟩
        obtain ⟨T65, h65, X65, e65, W65, st65⟩ := stI X58 hx hZ e58 Ar63 (j := 0) hin64 (g := (mkF m 60 #[iv p1_0, iv p1_1, iv p1_2, iv p1_3, iv p1_4] [(.int p1_0), (.int 0), (.ref b58), (.ref b58)])) rfl rfl (hb hby d1_60)
        have K66 : Keep h0 h65 [] := (K62).wr W65 (Or.inr bz60)
        have f67 : Av Z h65 b58 .int 4 [(.int p1_0), (.int 0), (.int 0), (.int 0)] (.int 0) := ⟨_, Arv.set Ar63 qq63 Sz63 Nn63 Hs63 Gf63 rfl W65 0 rfl (Nat.le_of_ble_eq_true rfl)⟩
        have N68 := Fr.snoc X65 N0 g59
        obtain ⟨kk69, cl69, Ar69, qq69, Sz69, Nn69, Hs69, Gf69⟩ := id f67
        have hin70 : ¬ ((1 : Int32) < 0 ∨ cl69.slots.size ≤ ((1 : Int32)).toNatClampNeg) := inb_of Sz69 ⟨by decide, by decide⟩
        obtain ⟨T71, h71, X71, e71, W71, st71⟩ := stI X65 hx hZ e65 Ar69 (j := 1) hin70 (g := (mkF m 64 #[iv p1_0, iv p1_1, iv p1_2, iv p1_3, iv p1_4] [(.int p1_1), (.int 1), (.ref b58), (.ref b58)])) rfl rfl (hb hby d1_64)
        have K72 : Keep h0 h71 [] := (K66).wr W71 (Or.inr bz60)
        have f73 : Av Z h71 b58 .int 4 [(.int p1_0), (.int p1_1), (.int 0), (.int 0)] (.int 0) := ⟨_, Arv.set Ar69 qq69 Sz69 Nn69 Hs69 Gf69 rfl W71 1 rfl (Nat.le_of_ble_eq_true rfl)⟩
        have N74 := Fr.snoc X71 N68 g59
        obtain ⟨kk75, cl75, Ar75, qq75, Sz75, Nn75, Hs75, Gf75⟩ := id f73
        have hin76 : ¬ ((2 : Int32) < 0 ∨ cl75.slots.size ≤ ((2 : Int32)).toNatClampNeg) := inb_of Sz75 ⟨by decide, by decide⟩
        obtain ⟨T77, h77, X77, e77, W77, st77⟩ := stI X71 hx hZ e71 Ar75 (j := 2) hin76 (g := (mkF m 68 #[iv p1_0, iv p1_1, iv p1_2, iv p1_3, iv p1_4] [(.int p1_2), (.int 2), (.ref b58), (.ref b58)])) rfl rfl (hb hby d1_68)
        have K78 : Keep h0 h77 [] := (K72).wr W77 (Or.inr bz60)
        have f79 : Av Z h77 b58 .int 4 [(.int p1_0), (.int p1_1), (.int p1_2), (.int 0)] (.int 0) := ⟨_, Arv.set Ar75 qq75 Sz75 Nn75 Hs75 Gf75 rfl W77 2 rfl (Nat.le_of_ble_eq_true rfl)⟩
        have N80 := Fr.snoc X77 N74 g59
        obtain ⟨kk81, cl81, Ar81, qq81, Sz81, Nn81, Hs81, Gf81⟩ := id f79
        have hin82 : ¬ ((3 : Int32) < 0 ∨ cl81.slots.size ≤ ((3 : Int32)).toNatClampNeg) := inb_of Sz81 ⟨by decide, by decide⟩
        obtain ⟨T83, h83, X83, e83, W83, st83⟩ := stI X77 hx hZ e77 Ar81 (j := 3) hin82 (g := (mkF m 72 #[iv p1_0, iv p1_1, iv p1_2, iv p1_3, iv p1_4] [(.int p1_3), (.int 3), (.ref b58), (.ref b58)])) rfl rfl (hb hby d1_72)
        have K84 : Keep h0 h83 [] := (K78).wr W83 (Or.inr bz60)
        have f85 : Av Z h83 b58 .int 4 [(.int p1_0), (.int p1_1), (.int p1_2), (.int p1_3)] (.int 0) := ⟨_, Arv.set Ar81 qq81 Sz81 Nn81 Hs81 Gf81 rfl W83 3 rfl (Nat.le_of_ble_eq_true rfl)⟩
        have N86 := Fr.snoc X83 N80 g59
        obtain ⟨fs, hr, hrun, hended, hW, hsame⟩ := X83.leave (v := some (.ref b58)) (fun h => by rw [Bd.returns] at h; cases h)
        refine ⟨_, _, pre34 _ ?_, hrun, hended, _, _, rfl, ?_, ⟨_, rfl⟩, hW, hsame.mono (by decide) (by decide)⟩
        · show Steps _ _ _ (State.setTop _ (mkF m 35 #[iv p1_0, iv p1_1, iv p1_2, iv p1_3, iv p1_4] [(.int 3), (.int p1_4)])) _
          refine XS.icmpYes X0.here hx rfl (pc0 := 35) (pc' := 54) rfl (hb hby d1_35) rfl (feq hc35_33).2 (by decide) (by decide) ?_
          refine XS.iconst X0.here hx rfl (hb hby d1_54) ?_
          refine st58 _ ?_
          refine XS.dup X58.here hx rfl (hb hby d1_57) rfl rfl ?_
          refine XS.iconst X58.here hx rfl (hb hby d1_58) ?_
          show Steps _ _ _ (State.setTop _ (mkF m 59 #[iv p1_0, iv p1_1, iv p1_2, iv p1_3, iv p1_4] [(.int 0), (.ref b58), (.ref b58)])) _
          refine XS.iloadN X58.here hx rfl (hb hby d1_59) rfl ?_
          refine st65 _ ?_
          refine XS.dup X65.here hx rfl (hb hby d1_61) rfl rfl ?_
          refine XS.iconst X65.here hx rfl (hb hby d1_62) ?_
          refine XS.iloadN X65.here hx rfl (hb hby d1_63) rfl ?_
          refine st71 _ ?_
          refine XS.dup X71.here hx rfl (hb hby d1_65) rfl rfl ?_
          refine XS.iconst X71.here hx rfl (hb hby d1_66) ?_
          refine XS.iloadN X71.here hx rfl (hb hby d1_67) rfl ?_
          show Steps _ _ _ (State.setTop _ (mkF m 68 #[iv p1_0, iv p1_1, iv p1_2, iv p1_3, iv p1_4] [(.int p1_2), (.int 2), (.ref b58), (.ref b58)])) _
          refine st77 _ ?_
          refine XS.dup X77.here hx rfl (hb hby d1_69) rfl rfl ?_
          refine XS.iconst X77.here hx rfl (hb hby d1_70) ?_
          refine XS.iloadN X77.here hx rfl (hb hby d1_71) rfl ?_
          refine st83 _ ?_
          show Steps _ _ _ (State.setTop _ (mkF m 73 #[iv p1_0, iv p1_1, iv p1_2, iv p1_3, iv p1_4] [(.ref b58)])) _
          exact retOut X83 hx Bd.returns rfl (Or.inr (Or.inr (Or.inr (Or.inr ⟨rfl, rfl, rfl⟩)))) (hb hby d1_73) hr
        · show Q_rm1 Z _ _ _ _ _ h0 n0 _ T83.heap _
          rw [e83]
          exact ⟨b58, rfl, N86, (K84), bz60, (by rw [(own_n4 hn4 hc3_1 hc17_14 hc35_33)]; exact f85)⟩
theorem d44_0 : decode method_3_code 0 = .ok (.iload 4, 2) := by decide +kernel
theorem d44_2 : decode method_3_code 2 = .ok (.ifCond .ne 5, 3) := by decide +kernel
theorem d44_5 : decode method_3_code 5 = .ok (.iload_n 0, 1) := by decide +kernel
theorem d44_6 : decode method_3_code 6 = .ok (.ireturn, 1) := by decide +kernel
theorem d44_7 : decode method_3_code 7 = .ok (.iload 4, 2) := by decide +kernel
theorem d44_9 : decode method_3_code 9 = .ok (.iconst 1, 1) := by decide +kernel
theorem d44_10 : decode method_3_code 10 = .ok (.if_icmp .ne 5, 3) := by decide +kernel
theorem d44_13 : decode method_3_code 13 = .ok (.iload_n 1, 1) := by decide +kernel
theorem d44_14 : decode method_3_code 14 = .ok (.ireturn, 1) := by decide +kernel
theorem d44_15 : decode method_3_code 15 = .ok (.iload 4, 2) := by decide +kernel
theorem d44_17 : decode method_3_code 17 = .ok (.iconst 2, 1) := by decide +kernel
theorem d44_18 : decode method_3_code 18 = .ok (.if_icmp .ne 5, 3) := by decide +kernel
theorem d44_21 : decode method_3_code 21 = .ok (.iload_n 2, 1) := by decide +kernel
theorem d44_22 : decode method_3_code 22 = .ok (.ireturn, 1) := by decide +kernel
theorem d44_23 : decode method_3_code 23 = .ok (.iload_n 3, 1) := by decide +kernel
theorem d44_24 : decode method_3_code 24 = .ok (.ireturn, 1) := by decide +kernel
theorem ef_rm44 (m : MethodId) (x0 x1 x2 x3 x4 : Int32) : entryFrame m #[(.int x0), (.int x1), (.int x2), (.int x3), (.int x4)] 5 = mkF m 0 #[iv x0, iv x1, iv x2, iv x3, iv x4] [] := by first | (simp [entryFrame, mkF, argsToLocals, Value.category]; done) | rfl
def Q_rm44 (Z : State) (p44_0 p44_1 p44_2 p44_3 p44_4 : Int32) (h0 : Heap) (n0 : Nat) (v : Option Value) (h : Heap) (L : List Loc) : Prop := v = some (.int (own_at p44_0 p44_1 p44_2 p44_3 p44_4)) ∧ Fr n0 L ∧ h = h0
set_option maxRecDepth 65536 in
set_option maxHeartbeats 40000000 in
theorem rm44 (l : Launch) (Z : State) (a0 : Array Value) (hw : ∀ d ∈ tables_1, d.before a0 Z = true) (ws : List Jvm.Cond) (p44_0 p44_1 p44_2 p44_3 p44_4 : Int32) (h0 : Heap) (n0 : Nat) (Z0 : n0 ≤ h0.size) :
    MetFree l MN44 (head1 (Jvm.Cond.code MN44 method_3_code 5 (some .int) :: ws) (Room.mk 0 0 0 0)) (fun a U => a = #[(.int p44_0), (.int p44_1), (.int p44_2), (.int p44_3), (.int p44_4)] ∧ Z.Warmed39 U.vm ∧ U.heap = h0) (fun _ _ _ _ _ => True) (fun _ U o U' => ∃ v L, o = .returned v ∧ Q_rm44 Z p44_0 p44_1 p44_2 p44_3 p44_4 h0 n0 v U'.heap L ∧ FrameEnd U o U' L (Room.mk 0 0 0 0).cells (Room.mk 0 0 0 0).slots) := by
  refine MetFree.of_bodySF (plainFor_of_name pn_com_example_arbiter_arbiter_OrdinalTableOrdinalPinLaw) hisR ?_
  intro p e s m args below meth c s₁ Bd hml0 hP hK
  obtain ⟨rfl, hZ, hh⟩ := hP
  have hx := Bd.exec
  have hby := Bd.bytes
  have hml : c.maxLocals = 5 := hml0
  have hown : s.vm.findClass "com/example/arbiter/arbiter/OrdinalTableOrdinalPinLaw" = some m.cls := findClass_of_methodNamed Bd.named
  have hnm := (name_of_methodNamed Bd.named Bd.method).1
  have X0 : Stand p l e (Room.mk 0 0 0 0) s m #[(.int p44_0), (.int p44_1), (.int p44_2), (.int p44_3), (.int p44_4)] below meth c s₁ [] 0 0 := Stand.of_body Bd
  have e0 : s₁.heap = h0 := by rw [← hh, Bd.state]; rfl
  have N0 := Fr.nil n0
  have pre0 : ∀ t, Steps p.tables e below (s₁.setTop (mkF m 0 #[iv p44_0, iv p44_1, iv p44_2, iv p44_3, iv p44_4] [])) t → Steps p.tables e below (s₁.setTop (entryFrame m #[(.int p44_0), (.int p44_1), (.int p44_2), (.int p44_3), (.int p44_4)] 5)) t := fun t k => castTop (ef_rm44 m p44_0 p44_1 p44_2 p44_3 p44_4) k
  have pre2 : ∀ t, Steps p.tables e below (s₁.setTop (mkF m 2 #[iv p44_0, iv p44_1, iv p44_2, iv p44_3, iv p44_4] [(.int p44_4)])) t → Steps p.tables e below (s₁.setTop (entryFrame m #[(.int p44_0), (.int p44_1), (.int p44_2), (.int p44_3), (.int p44_4)] 5)) t := by
    intro t_ k_
    refine pre0 _ ?_
    show Steps _ _ _ (State.setTop _ (mkF m 0 #[iv p44_0, iv p44_1, iv p44_2, iv p44_3, iv p44_4] [])) _
    refine XS.iload X0.here hx rfl (hb hby d44_0) rfl ?_
    exact k_
  by_cases hc2_1 : p44_4 = 0
  · skip
    obtain ⟨fs, hr, hrun, hended, hW, hsame⟩ := X0.leave (v := some (.int p44_0)) (fun h => by rw [Bd.returns] at h; cases h)
    refine ⟨_, _, pre2 _ ?_, hrun, hended, _, _, rfl, ?_, ⟨_, rfl⟩, hW, hsame.mono (by decide) (by decide)⟩
    · show Steps _ _ _ (State.setTop _ (mkF m 2 #[iv p44_0, iv p44_1, iv p44_2, iv p44_3, iv p44_4] [(.int p44_4)])) _
      refine XS.ifNo X0.here hx rfl (hb hby d44_2) rfl ((if0 _ _).trans (teq hc2_1).2) ?_
      refine XS.iloadN X0.here hx rfl (hb hby d44_5) rfl ?_
      show Steps _ _ _ (State.setTop _ (mkF m 6 #[iv p44_0, iv p44_1, iv p44_2, iv p44_3, iv p44_4] [(.int p44_0)])) _
      exact retI X0 hx Bd.returns (hb hby d44_6) hr
    · show Q_rm44 Z _ _ _ _ _ h0 n0 _ s₁.heap _
      rw [e0]
      exact ⟨(by unfold own_at; rw [if_pos hc2_1]), N0, rfl⟩
  · skip
    have pre4 : ∀ t, Steps p.tables e below (s₁.setTop (mkF m 10 #[iv p44_0, iv p44_1, iv p44_2, iv p44_3, iv p44_4] [(.int 1), (.int p44_4)])) t → Steps p.tables e below (s₁.setTop (entryFrame m #[(.int p44_0), (.int p44_1), (.int p44_2), (.int p44_3), (.int p44_4)] 5)) t := by
      intro t_ k_
      refine pre2 _ ?_
      refine XS.ifYes X0.here hx rfl (pc0 := 2) (pc' := 7) rfl (hb hby d44_2) rfl ((if0 _ _).trans (feq hc2_1).2) (by decide) (by decide) ?_
      refine XS.iload X0.here hx rfl (hb hby d44_7) rfl ?_
      refine XS.iconst X0.here hx rfl (hb hby d44_9) ?_
      exact k_
    by_cases hc10_3 : p44_4 = 1
    · skip
      obtain ⟨fs, hr, hrun, hended, hW, hsame⟩ := X0.leave (v := some (.int p44_1)) (fun h => by rw [Bd.returns] at h; cases h)
      refine ⟨_, _, pre4 _ ?_, hrun, hended, _, _, rfl, ?_, ⟨_, rfl⟩, hW, hsame.mono (by decide) (by decide)⟩
      · show Steps _ _ _ (State.setTop _ (mkF m 10 #[iv p44_0, iv p44_1, iv p44_2, iv p44_3, iv p44_4] [(.int 1), (.int p44_4)])) _
        refine XS.icmpNo X0.here hx rfl (hb hby d44_10) rfl (teq hc10_3).2 ?_
        refine XS.iloadN X0.here hx rfl (hb hby d44_13) rfl ?_
        show Steps _ _ _ (State.setTop _ (mkF m 14 #[iv p44_0, iv p44_1, iv p44_2, iv p44_3, iv p44_4] [(.int p44_1)])) _
        exact retI X0 hx Bd.returns (hb hby d44_14) hr
      · show Q_rm44 Z _ _ _ _ _ h0 n0 _ s₁.heap _
        rw [e0]
        exact ⟨(by unfold own_at; rw [if_neg hc2_1, if_pos hc10_3]), N0, rfl⟩
    · skip
      have pre6 : ∀ t, Steps p.tables e below (s₁.setTop (mkF m 18 #[iv p44_0, iv p44_1, iv p44_2, iv p44_3, iv p44_4] [(.int 2), (.int p44_4)])) t → Steps p.tables e below (s₁.setTop (entryFrame m #[(.int p44_0), (.int p44_1), (.int p44_2), (.int p44_3), (.int p44_4)] 5)) t := by
        intro t_ k_
        refine pre4 _ ?_
        refine XS.icmpYes X0.here hx rfl (pc0 := 10) (pc' := 15) rfl (hb hby d44_10) rfl (feq hc10_3).2 (by decide) (by decide) ?_
        show Steps _ _ _ (State.setTop _ (mkF m 15 #[iv p44_0, iv p44_1, iv p44_2, iv p44_3, iv p44_4] [])) _
        refine XS.iload X0.here hx rfl (hb hby d44_15) rfl ?_
        refine XS.iconst X0.here hx rfl (hb hby d44_17) ?_
        exact k_
      by_cases hc18_5 : p44_4 = 2
      · skip
        obtain ⟨fs, hr, hrun, hended, hW, hsame⟩ := X0.leave (v := some (.int p44_2)) (fun h => by rw [Bd.returns] at h; cases h)
        refine ⟨_, _, pre6 _ ?_, hrun, hended, _, _, rfl, ?_, ⟨_, rfl⟩, hW, hsame.mono (by decide) (by decide)⟩
        · show Steps _ _ _ (State.setTop _ (mkF m 18 #[iv p44_0, iv p44_1, iv p44_2, iv p44_3, iv p44_4] [(.int 2), (.int p44_4)])) _
          refine XS.icmpNo X0.here hx rfl (hb hby d44_18) rfl (teq hc18_5).2 ?_
          refine XS.iloadN X0.here hx rfl (hb hby d44_21) rfl ?_
          show Steps _ _ _ (State.setTop _ (mkF m 22 #[iv p44_0, iv p44_1, iv p44_2, iv p44_3, iv p44_4] [(.int p44_2)])) _
          exact retI X0 hx Bd.returns (hb hby d44_22) hr
        · show Q_rm44 Z _ _ _ _ _ h0 n0 _ s₁.heap _
          rw [e0]
          exact ⟨(by unfold own_at; rw [if_neg hc2_1, if_neg hc10_3, if_pos hc18_5]), N0, rfl⟩
      · skip
        obtain ⟨fs, hr, hrun, hended, hW, hsame⟩ := X0.leave (v := some (.int p44_3)) (fun h => by rw [Bd.returns] at h; cases h)
        refine ⟨_, _, pre6 _ ?_, hrun, hended, _, _, rfl, ?_, ⟨_, rfl⟩, hW, hsame.mono (by decide) (by decide)⟩
        · show Steps _ _ _ (State.setTop _ (mkF m 18 #[iv p44_0, iv p44_1, iv p44_2, iv p44_3, iv p44_4] [(.int 2), (.int p44_4)])) _
          refine XS.icmpYes X0.here hx rfl (pc0 := 18) (pc' := 23) rfl (hb hby d44_18) rfl (feq hc18_5).2 (by decide) (by decide) ?_
          refine XS.iloadN X0.here hx rfl (hb hby d44_23) rfl ?_
          show Steps _ _ _ (State.setTop _ (mkF m 24 #[iv p44_0, iv p44_1, iv p44_2, iv p44_3, iv p44_4] [(.int p44_3)])) _
          exact retI X0 hx Bd.returns (hb hby d44_24) hr
        · show Q_rm44 Z _ _ _ _ _ h0 n0 _ s₁.heap _
          rw [e0]
          exact ⟨(by unfold own_at; rw [if_neg hc2_1, if_neg hc10_3, if_neg hc18_5]), N0, rfl⟩
theorem d8_0 : decode jdk_31_method_11_code 0 = .ok (.aload_n 0, 1) := by decide +kernel
theorem d8_1 : decode jdk_31_method_11_code 1 = .ok (.ifnonnull 12, 3) := by decide +kernel
theorem d8_13 : decode jdk_31_method_11_code 13 = .ok (.aload_n 0, 1) := by decide +kernel
theorem d8_14 : decode jdk_31_method_11_code 14 = .ok (.areturn, 1) := by decide +kernel
theorem pn_java_util_Objects : plainName "java/util/Objects" = true := by first | (simp [plainName, overriddenIn]; done) | decide +kernel
theorem ef_rm8 (m : MethodId) (x0 x1 : Addr) : entryFrame m #[(.ref x0), (.ref x1)] 2 = mkF m 0 #[rv x0, rv x1] [] := by first | (simp [entryFrame, mkF, argsToLocals, Value.category]; done) | rfl
def Q_rm8 (Z : State) (x_ y_ : Addr) (h0 : Heap) (n0 : Nat) (v : Option Value) (h : Heap) (L : List Loc) : Prop := v = some (.ref x_) ∧ Fr n0 L ∧ h = h0
set_option maxRecDepth 65536 in
set_option maxHeartbeats 40000000 in
theorem rm8 (l : Launch) (Z : State) (a0 : Array Value) (hw : ∀ d ∈ tables_1, d.before a0 Z = true) (ws : List Jvm.Cond) (x_ y_ : Addr) (h0 : Heap) (n0 : Nat) (Z0 : n0 ≤ h0.size) :
    MetFree l MN8 (head1 (Jvm.Cond.code MN8 jdk_31_method_11_code 2 (some (.object "java/lang/Object")) :: ws) (Room.mk 0 0 0 0)) (fun a U => a = #[(.ref x_), (.ref y_)] ∧ Z.Warmed39 U.vm ∧ U.heap = h0) (fun _ _ _ _ _ => True) (fun _ U o U' => ∃ v L, o = .returned v ∧ Q_rm8 Z x_ y_ h0 n0 v U'.heap L ∧ FrameEnd U o U' L (Room.mk 0 0 0 0).cells (Room.mk 0 0 0 0).slots) := by
  refine MetFree.of_bodySF (plainFor_of_name pn_java_util_Objects) hisR ?_
  intro p e s m args below meth c s₁ Bd hml0 hP hK
  obtain ⟨rfl, hZ, hh⟩ := hP
  have hx := Bd.exec
  have hby := Bd.bytes
  have hml : c.maxLocals = 2 := hml0
  have hown : s.vm.findClass "java/util/Objects" = some m.cls := findClass_of_methodNamed Bd.named
  have hnm := (name_of_methodNamed Bd.named Bd.method).1
  have X0 : Stand p l e (Room.mk 0 0 0 0) s m #[(.ref x_), (.ref y_)] below meth c s₁ [] 0 0 := Stand.of_body Bd
  have e0 : s₁.heap = h0 := by rw [← hh, Bd.state]; rfl
  have N0 := Fr.nil n0
  have pre0 : ∀ t, Steps p.tables e below (s₁.setTop (mkF m 0 #[rv x_, rv y_] [])) t → Steps p.tables e below (s₁.setTop (entryFrame m #[(.ref x_), (.ref y_)] 2)) t := fun t k => castTop (ef_rm8 m x_ y_) k
  obtain ⟨fs, hr, hrun, hended, hW, hsame⟩ := X0.leave (v := some (.ref x_)) (fun h => by rw [Bd.returns] at h; cases h)
  refine ⟨_, _, pre0 _ ?_, hrun, hended, _, _, rfl, ?_, ⟨_, rfl⟩, hW, hsame.mono (by decide) (by decide)⟩
  · show Steps _ _ _ (State.setTop _ (mkF m 0 #[rv x_, rv y_] [])) _
    refine XS.aloadN X0.here hx rfl (hb hby d8_0) rfl rfl ?_
    show Steps _ _ _ (State.setTop _ (mkF m 1 #[rv x_, rv y_] [(.ref x_)])) _
    refine XS.ifnonnullYes X0.here hx rfl (pc0 := 1) (pc' := 13) rfl (hb hby d8_1) rfl (by decide) (by decide) ?_
    refine XS.aloadN X0.here hx rfl (hb hby d8_13) rfl rfl ?_
    show Steps _ _ _ (State.setTop _ (mkF m 14 #[rv x_, rv y_] [(.ref x_)])) _
    exact retOut X0 hx Bd.returns rfl (Or.inr (Or.inr (Or.inr (Or.inr ⟨rfl, rfl, rfl⟩)))) (hb hby d8_14) hr
  · show Q_rm8 Z _ _ h0 n0 _ s₁.heap _
    rw [e0]
    exact ⟨rfl, N0, rfl⟩
theorem d14_0 : decode jdk_41_method_12_code 0 = .ok (.iload_n 0, 1) := by decide +kernel
theorem d14_1 : decode jdk_41_method_12_code 1 = .ok (.ifCond .lt 13, 3) := by decide +kernel
theorem d14_4 : decode jdk_41_method_12_code 4 = .ok (.iload_n 0, 1) := by decide +kernel
theorem d14_5 : decode jdk_41_method_12_code 5 = .ok (.iload_n 1, 1) := by decide +kernel
theorem d14_6 : decode jdk_41_method_12_code 6 = .ok (.if_icmp .gt 8, 3) := by decide +kernel
theorem d14_9 : decode jdk_41_method_12_code 9 = .ok (.iload_n 1, 1) := by decide +kernel
theorem d14_10 : decode jdk_41_method_12_code 10 = .ok (.iload_n 2, 1) := by decide +kernel
theorem d14_11 : decode jdk_41_method_12_code 11 = .ok (.if_icmp .le 11, 3) := by decide +kernel
theorem d14_22 : decode jdk_41_method_12_code 22 = .ok (.iload_n 0, 1) := by decide +kernel
theorem d14_23 : decode jdk_41_method_12_code 23 = .ok (.ireturn, 1) := by decide +kernel
theorem pn_jdk_internal_util_Preconditions : plainName "jdk/internal/util/Preconditions" = true := by first | (simp [plainName, overriddenIn]; done) | decide +kernel
theorem ef_cft_1 (m : MethodId) (x0 x1 x2 : Int32) : entryFrame m #[(.int x0), (.int x1), (.int x2), .null] 4 = mkF m 0 #[iv x0, iv x1, iv x2, .val .null] [] := by first | (simp [entryFrame, mkF, argsToLocals, Value.category]; done) | rfl
def Q_cft_1 (Z : State)  (h0 : Heap) (n0 : Nat) (v : Option Value) (h : Heap) (L : List Loc) : Prop := v = some (.int 0) ∧ Fr n0 L ∧ h = h0
set_option maxRecDepth 65536 in
set_option maxHeartbeats 40000000 in
theorem cft_1 (l : Launch) (Z : State) (a0 : Array Value) (hw : ∀ d ∈ tables_1, d.before a0 Z = true) (ws : List Jvm.Cond)  (h0 : Heap) (n0 : Nat) (Z0 : n0 ≤ h0.size) :
    MetFree l MN14 (head1 (Jvm.Cond.code MN14 jdk_41_method_12_code 4 (some .int) :: ws) (Room.mk 0 0 0 0)) (fun a U => a = #[(.int 0), (.int 1), (.int 1), .null] ∧ Z.Warmed39 U.vm ∧ U.heap = h0) (fun _ _ _ _ _ => True) (fun _ U o U' => ∃ v L, o = .returned v ∧ Q_cft_1 Z  h0 n0 v U'.heap L ∧ FrameEnd U o U' L (Room.mk 0 0 0 0).cells (Room.mk 0 0 0 0).slots) := by
  refine MetFree.of_bodySF (plainFor_of_name pn_jdk_internal_util_Preconditions) hisR ?_
  intro p e s m args below meth c s₁ Bd hml0 hP hK
  obtain ⟨rfl, hZ, hh⟩ := hP
  have hx := Bd.exec
  have hby := Bd.bytes
  have hml : c.maxLocals = 4 := hml0
  have hown : s.vm.findClass "jdk/internal/util/Preconditions" = some m.cls := findClass_of_methodNamed Bd.named
  have hnm := (name_of_methodNamed Bd.named Bd.method).1
  have X0 : Stand p l e (Room.mk 0 0 0 0) s m #[(.int 0), (.int 1), (.int 1), .null] below meth c s₁ [] 0 0 := Stand.of_body Bd
  have e0 : s₁.heap = h0 := by rw [← hh, Bd.state]; rfl
  have N0 := Fr.nil n0
  have pre0 : ∀ t, Steps p.tables e below (s₁.setTop (mkF m 0 #[iv 0, iv 1, iv 1, .val .null] [])) t → Steps p.tables e below (s₁.setTop (entryFrame m #[(.int 0), (.int 1), (.int 1), .null] 4)) t := fun t k => castTop (ef_cft_1 m (0 : Int32) (1 : Int32) (1 : Int32)) k
  obtain ⟨fs, hr, hrun, hended, hW, hsame⟩ := X0.leave (v := some (.int 0)) (fun h => by rw [Bd.returns] at h; cases h)
  refine ⟨_, _, pre0 _ ?_, hrun, hended, _, _, rfl, ?_, ⟨_, rfl⟩, hW, hsame.mono (by decide) (by decide)⟩
  · show Steps _ _ _ (State.setTop _ (mkF m 0 #[iv 0, iv 1, iv 1, .val .null] [])) _
    refine XS.iloadN X0.here hx rfl (hb hby d14_0) rfl ?_
    show Steps _ _ _ (State.setTop _ (mkF m 1 #[iv 0, iv 1, iv 1, .val .null] [(.int 0)])) _
    refine XS.ifNo X0.here hx rfl (hb hby d14_1) rfl ((if0 _ _).trans (flt (by decide : ¬ ((0 : Int32) < 0))).1) ?_
    refine XS.iloadN X0.here hx rfl (hb hby d14_4) rfl ?_
    refine XS.iloadN X0.here hx rfl (hb hby d14_5) rfl ?_
    refine XS.icmpNo X0.here hx rfl (hb hby d14_6) rfl (flt (by decide : ¬ ((1 : Int32) < 0))).2.2.1 ?_
    refine XS.iloadN X0.here hx rfl (hb hby d14_9) rfl ?_
    refine XS.iloadN X0.here hx rfl (hb hby d14_10) rfl ?_
    refine XS.icmpYes X0.here hx rfl (pc0 := 11) (pc' := 22) rfl (hb hby d14_11) rfl (flt (by decide : ¬ ((1 : Int32) < 1))).2.2.2 (by decide) (by decide) ?_
    refine XS.iloadN X0.here hx rfl (hb hby d14_22) rfl ?_
    show Steps _ _ _ (State.setTop _ (mkF m 23 #[iv 0, iv 1, iv 1, .val .null] [(.int 0)])) _
    exact retI X0 hx Bd.returns (hb hby d14_23) hr
  · show Q_cft_1 Z  h0 n0 _ s₁.heap _
    rw [e0]
    exact ⟨rfl, N0, rfl⟩
theorem d13_0 : decode jdk_31_method_18_code 0 = .ok (.iload_n 0, 1) := by decide +kernel
theorem d13_1 : decode jdk_31_method_18_code 1 = .ok (.iload_n 1, 1) := by decide +kernel
theorem d13_2 : decode jdk_31_method_18_code 2 = .ok (.iload_n 2, 1) := by decide +kernel
theorem d13_3 : decode jdk_31_method_18_code 3 = .ok (.aconst_null, 1) := by decide +kernel
theorem pd_16 : parseMethodDescriptor "(IIILjava/util/function/BiFunction;)I" = some ⟨[.int, .int, .int, (.object "java/util/function/BiFunction")], some .int⟩ := by decide +kernel
theorem d13_4 : decode jdk_31_method_18_code 4 = .ok (.invokestatic 111, 3) := by decide +kernel
theorem d13_7 : decode jdk_31_method_18_code 7 = .ok (.ireturn, 1) := by decide +kernel
theorem ef_cfi_1 (m : MethodId) (x0 x1 x2 : Int32) : entryFrame m #[(.int x0), (.int x1), (.int x2)] 3 = mkF m 0 #[iv x0, iv x1, iv x2] [] := by first | (simp [entryFrame, mkF, argsToLocals, Value.category]; done) | rfl
def Q_cfi_1 (Z : State)  (h0 : Heap) (n0 : Nat) (v : Option Value) (h : Heap) (L : List Loc) : Prop := v = some (.int 0) ∧ Fr n0 L ∧ h = h0
set_option maxRecDepth 65536 in
set_option maxHeartbeats 40000000 in
theorem cfi_1 (l : Launch) (Z : State) (a0 : Array Value) (hw : ∀ d ∈ tables_1, d.before a0 Z = true) (ws : List Jvm.Cond)  (h0 : Heap) (n0 : Nat) (Z0 : n0 ≤ h0.size) :
    MetFree l MN13 (head1 (Jvm.Cond.code MN13 jdk_31_method_18_code 3 (some .int) :: ws) (Room.mk 1 0 0 15)) (fun a U => a = #[(.int 0), (.int 1), (.int 1)] ∧ Z.Warmed39 U.vm ∧ U.heap = h0) (fun _ _ _ _ _ => True) (fun _ U o U' => ∃ v L, o = .returned v ∧ Q_cfi_1 Z  h0 n0 v U'.heap L ∧ FrameEnd U o U' L (Room.mk 1 0 0 15).cells (Room.mk 1 0 0 15).slots) := by
  refine MetFree.of_bodySF (plainFor_of_name pn_java_util_Objects) hisR ?_
  intro p e s m args below meth c s₁ Bd hml0 hP hK
  obtain ⟨rfl, hZ, hh⟩ := hP
  have hx := Bd.exec
  have hby := Bd.bytes
  have hml : c.maxLocals = 3 := hml0
  have hown : s.vm.findClass "java/util/Objects" = some m.cls := findClass_of_methodNamed Bd.named
  have hnm := (name_of_methodNamed Bd.named Bd.method).1
  have X0 : Stand p l e (Room.mk 1 0 0 15) s m #[(.int 0), (.int 1), (.int 1)] below meth c s₁ [] 0 0 := Stand.of_body Bd
  have e0 : s₁.heap = h0 := by rw [← hh, Bd.state]; rfl
  have N0 := Fr.nil n0
  have pre0 : ∀ t, Steps p.tables e below (s₁.setTop (mkF m 0 #[iv 0, iv 1, iv 1] [])) t → Steps p.tables e below (s₁.setTop (entryFrame m #[(.int 0), (.int 1), (.int 1)] 3)) t := fun t k => castTop (ef_cfi_1 m (0 : Int32) (1 : Int32) (1 : Int32)) k
  have wo68 := hw _ (own_m 68 rfl)
  have wo69 := hw _ (own_m 69 rfl)
  have wo70 := hw _ (own_m 70 rfl)
  have wo71 := hw _ (own_m 71 rfl)
  obtain ⟨_, _, ⟨T1, L1, k1, n1⟩, -, X1, ⟨Lc1, hQ1, l1, y1, z1⟩, st1⟩ := Jvm.LawKit.callS X0 hx (y := MN14) hown (mvT hZ wo68) (mvT hZ wo69) (mvT hZ wo70) (mvT hZ wo71) (by decide) (backOf (W := 0) (cft_1 l Z a0 hw []  h0 n0 Z0 ) hZ wo71 wo70 (by decide) (by decide)) (g := (mkF m 4 #[iv 0, iv 1, iv 1] [.null, (.int 1), (.int 1), (.int 0)])) rfl (by rw [hml]; rfl) (argsL := [(.int 0), (.int 1), (.int 1), .null]) (rest := []) (lenOf pd_16 rfl) rfl (by show 2 * 0 + _ ≤ _; exact Nat.le_of_eq rfl) (hb hby d13_4) (fun _ _ => ⟨rfl, e0, (by decide : 0 + 0 ≤ _), (by decide : 0 + 0 ≤ _)⟩)
  dsimp only [Pt.U, Pt.locs, Pt.cells, Pt.slots] at X1 l1 y1 z1 st1 hQ1
  rw [l1, y1, z1] at X1
  obtain ⟨rfl, N1q, K1q⟩ := hQ1
  have N2 := Fr.app N0 N1q
  obtain ⟨fs, hr, hrun, hended, hW, hsame⟩ := X1.leave (v := some (.int 0)) (fun h => by rw [Bd.returns] at h; cases h)
  refine ⟨_, _, pre0 _ ?_, hrun, hended, _, _, rfl, ?_, ⟨_, rfl⟩, hW, hsame.mono (by decide) (by decide)⟩
  · show Steps _ _ _ (State.setTop _ (mkF m 0 #[iv 0, iv 1, iv 1] [])) _
    refine XS.iloadN X0.here hx rfl (hb hby d13_0) rfl ?_
    show Steps _ _ _ (State.setTop _ (mkF m 1 #[iv 0, iv 1, iv 1] [(.int 0)])) _
    refine XS.iloadN X0.here hx rfl (hb hby d13_1) rfl ?_
    refine XS.iloadN X0.here hx rfl (hb hby d13_2) rfl ?_
    refine XS.aconstNull X0.here hx rfl (hb hby d13_3) ?_
    refine st1 _ ?_
    show Steps _ _ _ (State.setTop _ (mkF m 7 #[iv 0, iv 1, iv 1] [(.int 0)])) _
    exact retI X1 hx Bd.returns (hb hby d13_7) hr
  · show Q_cfi_1 Z  h0 n0 _ T1.heap _
    rw [K1q]
    exact ⟨rfl, N2, rfl⟩
theorem ef_cft_2 (m : MethodId) (x0 x1 x2 : Int32) : entryFrame m #[(.int x0), (.int x1), (.int x2), .null] 4 = mkF m 0 #[iv x0, iv x1, iv x2, .val .null] [] := by first | (simp [entryFrame, mkF, argsToLocals, Value.category]; done) | rfl
def Q_cft_2 (Z : State)  (h0 : Heap) (n0 : Nat) (v : Option Value) (h : Heap) (L : List Loc) : Prop := v = some (.int 0) ∧ Fr n0 L ∧ h = h0
set_option maxRecDepth 65536 in
set_option maxHeartbeats 40000000 in
theorem cft_2 (l : Launch) (Z : State) (a0 : Array Value) (hw : ∀ d ∈ tables_1, d.before a0 Z = true) (ws : List Jvm.Cond)  (h0 : Heap) (n0 : Nat) (Z0 : n0 ≤ h0.size) :
    MetFree l MN14 (head1 (Jvm.Cond.code MN14 jdk_41_method_12_code 4 (some .int) :: ws) (Room.mk 0 0 0 0)) (fun a U => a = #[(.int 0), (.int 2), (.int 2), .null] ∧ Z.Warmed39 U.vm ∧ U.heap = h0) (fun _ _ _ _ _ => True) (fun _ U o U' => ∃ v L, o = .returned v ∧ Q_cft_2 Z  h0 n0 v U'.heap L ∧ FrameEnd U o U' L (Room.mk 0 0 0 0).cells (Room.mk 0 0 0 0).slots) := by
  refine MetFree.of_bodySF (plainFor_of_name pn_jdk_internal_util_Preconditions) hisR ?_
  intro p e s m args below meth c s₁ Bd hml0 hP hK
  obtain ⟨rfl, hZ, hh⟩ := hP
  have hx := Bd.exec
  have hby := Bd.bytes
  have hml : c.maxLocals = 4 := hml0
  have hown : s.vm.findClass "jdk/internal/util/Preconditions" = some m.cls := findClass_of_methodNamed Bd.named
  have hnm := (name_of_methodNamed Bd.named Bd.method).1
  have X0 : Stand p l e (Room.mk 0 0 0 0) s m #[(.int 0), (.int 2), (.int 2), .null] below meth c s₁ [] 0 0 := Stand.of_body Bd
  have e0 : s₁.heap = h0 := by rw [← hh, Bd.state]; rfl
  have N0 := Fr.nil n0
  have pre0 : ∀ t, Steps p.tables e below (s₁.setTop (mkF m 0 #[iv 0, iv 2, iv 2, .val .null] [])) t → Steps p.tables e below (s₁.setTop (entryFrame m #[(.int 0), (.int 2), (.int 2), .null] 4)) t := fun t k => castTop (ef_cft_2 m (0 : Int32) (2 : Int32) (2 : Int32)) k
  obtain ⟨fs, hr, hrun, hended, hW, hsame⟩ := X0.leave (v := some (.int 0)) (fun h => by rw [Bd.returns] at h; cases h)
  refine ⟨_, _, pre0 _ ?_, hrun, hended, _, _, rfl, ?_, ⟨_, rfl⟩, hW, hsame.mono (by decide) (by decide)⟩
  · show Steps _ _ _ (State.setTop _ (mkF m 0 #[iv 0, iv 2, iv 2, .val .null] [])) _
    refine XS.iloadN X0.here hx rfl (hb hby d14_0) rfl ?_
    show Steps _ _ _ (State.setTop _ (mkF m 1 #[iv 0, iv 2, iv 2, .val .null] [(.int 0)])) _
    refine XS.ifNo X0.here hx rfl (hb hby d14_1) rfl ((if0 _ _).trans (flt (by decide : ¬ ((0 : Int32) < 0))).1) ?_
    refine XS.iloadN X0.here hx rfl (hb hby d14_4) rfl ?_
    refine XS.iloadN X0.here hx rfl (hb hby d14_5) rfl ?_
    refine XS.icmpNo X0.here hx rfl (hb hby d14_6) rfl (flt (by decide : ¬ ((2 : Int32) < 0))).2.2.1 ?_
    refine XS.iloadN X0.here hx rfl (hb hby d14_9) rfl ?_
    refine XS.iloadN X0.here hx rfl (hb hby d14_10) rfl ?_
    refine XS.icmpYes X0.here hx rfl (pc0 := 11) (pc' := 22) rfl (hb hby d14_11) rfl (flt (by decide : ¬ ((2 : Int32) < 2))).2.2.2 (by decide) (by decide) ?_
    refine XS.iloadN X0.here hx rfl (hb hby d14_22) rfl ?_
    show Steps _ _ _ (State.setTop _ (mkF m 23 #[iv 0, iv 2, iv 2, .val .null] [(.int 0)])) _
    exact retI X0 hx Bd.returns (hb hby d14_23) hr
  · show Q_cft_2 Z  h0 n0 _ s₁.heap _
    rw [e0]
    exact ⟨rfl, N0, rfl⟩
theorem ef_cfi_2 (m : MethodId) (x0 x1 x2 : Int32) : entryFrame m #[(.int x0), (.int x1), (.int x2)] 3 = mkF m 0 #[iv x0, iv x1, iv x2] [] := by first | (simp [entryFrame, mkF, argsToLocals, Value.category]; done) | rfl
def Q_cfi_2 (Z : State)  (h0 : Heap) (n0 : Nat) (v : Option Value) (h : Heap) (L : List Loc) : Prop := v = some (.int 0) ∧ Fr n0 L ∧ h = h0
set_option maxRecDepth 65536 in
set_option maxHeartbeats 40000000 in
theorem cfi_2 (l : Launch) (Z : State) (a0 : Array Value) (hw : ∀ d ∈ tables_1, d.before a0 Z = true) (ws : List Jvm.Cond)  (h0 : Heap) (n0 : Nat) (Z0 : n0 ≤ h0.size) :
    MetFree l MN13 (head1 (Jvm.Cond.code MN13 jdk_31_method_18_code 3 (some .int) :: ws) (Room.mk 1 0 0 15)) (fun a U => a = #[(.int 0), (.int 2), (.int 2)] ∧ Z.Warmed39 U.vm ∧ U.heap = h0) (fun _ _ _ _ _ => True) (fun _ U o U' => ∃ v L, o = .returned v ∧ Q_cfi_2 Z  h0 n0 v U'.heap L ∧ FrameEnd U o U' L (Room.mk 1 0 0 15).cells (Room.mk 1 0 0 15).slots) := by
  refine MetFree.of_bodySF (plainFor_of_name pn_java_util_Objects) hisR ?_
  intro p e s m args below meth c s₁ Bd hml0 hP hK
  obtain ⟨rfl, hZ, hh⟩ := hP
  have hx := Bd.exec
  have hby := Bd.bytes
  have hml : c.maxLocals = 3 := hml0
  have hown : s.vm.findClass "java/util/Objects" = some m.cls := findClass_of_methodNamed Bd.named
  have hnm := (name_of_methodNamed Bd.named Bd.method).1
  have X0 : Stand p l e (Room.mk 1 0 0 15) s m #[(.int 0), (.int 2), (.int 2)] below meth c s₁ [] 0 0 := Stand.of_body Bd
  have e0 : s₁.heap = h0 := by rw [← hh, Bd.state]; rfl
  have N0 := Fr.nil n0
  have pre0 : ∀ t, Steps p.tables e below (s₁.setTop (mkF m 0 #[iv 0, iv 2, iv 2] [])) t → Steps p.tables e below (s₁.setTop (entryFrame m #[(.int 0), (.int 2), (.int 2)] 3)) t := fun t k => castTop (ef_cfi_2 m (0 : Int32) (2 : Int32) (2 : Int32)) k
  have wo68 := hw _ (own_m 68 rfl)
  have wo69 := hw _ (own_m 69 rfl)
  have wo70 := hw _ (own_m 70 rfl)
  have wo71 := hw _ (own_m 71 rfl)
  obtain ⟨_, _, ⟨T1, L1, k1, n1⟩, -, X1, ⟨Lc1, hQ1, l1, y1, z1⟩, st1⟩ := Jvm.LawKit.callS X0 hx (y := MN14) hown (mvT hZ wo68) (mvT hZ wo69) (mvT hZ wo70) (mvT hZ wo71) (by decide) (backOf (W := 0) (cft_2 l Z a0 hw []  h0 n0 Z0 ) hZ wo71 wo70 (by decide) (by decide)) (g := (mkF m 4 #[iv 0, iv 2, iv 2] [.null, (.int 2), (.int 2), (.int 0)])) rfl (by rw [hml]; rfl) (argsL := [(.int 0), (.int 2), (.int 2), .null]) (rest := []) (lenOf pd_16 rfl) rfl (by show 2 * 0 + _ ≤ _; exact Nat.le_of_eq rfl) (hb hby d13_4) (fun _ _ => ⟨rfl, e0, (by decide : 0 + 0 ≤ _), (by decide : 0 + 0 ≤ _)⟩)
  dsimp only [Pt.U, Pt.locs, Pt.cells, Pt.slots] at X1 l1 y1 z1 st1 hQ1
  rw [l1, y1, z1] at X1
  obtain ⟨rfl, N1q, K1q⟩ := hQ1
  have N2 := Fr.app N0 N1q
  obtain ⟨fs, hr, hrun, hended, hW, hsame⟩ := X1.leave (v := some (.int 0)) (fun h => by rw [Bd.returns] at h; cases h)
  refine ⟨_, _, pre0 _ ?_, hrun, hended, _, _, rfl, ?_, ⟨_, rfl⟩, hW, hsame.mono (by decide) (by decide)⟩
  · show Steps _ _ _ (State.setTop _ (mkF m 0 #[iv 0, iv 2, iv 2] [])) _
    refine XS.iloadN X0.here hx rfl (hb hby d13_0) rfl ?_
    show Steps _ _ _ (State.setTop _ (mkF m 1 #[iv 0, iv 2, iv 2] [(.int 0)])) _
    refine XS.iloadN X0.here hx rfl (hb hby d13_1) rfl ?_
    refine XS.iloadN X0.here hx rfl (hb hby d13_2) rfl ?_
    refine XS.aconstNull X0.here hx rfl (hb hby d13_3) ?_
    refine st1 _ ?_
    show Steps _ _ _ (State.setTop _ (mkF m 7 #[iv 0, iv 2, iv 2] [(.int 0)])) _
    exact retI X1 hx Bd.returns (hb hby d13_7) hr
  · show Q_cfi_2 Z  h0 n0 _ T1.heap _
    rw [K1q]
    exact ⟨rfl, N2, rfl⟩
theorem d15_0 : decode jdk_42_method_154_code 0 = .ok (.getstatic 38, 3) := by decide +kernel
theorem d15_3 : decode jdk_42_method_154_code 3 = .ok (.ifCond .eq 14, 3) := by decide +kernel
theorem d15_6 : decode jdk_42_method_154_code 6 = .ok (.aload_n 0, 1) := by decide +kernel
theorem d15_7 : decode jdk_42_method_154_code 7 = .ok (.getfield 15, 3) := by decide +kernel
theorem d15_10 : decode jdk_42_method_154_code 10 = .ok (.ifCond .ne 7, 3) := by decide +kernel
theorem d15_13 : decode jdk_42_method_154_code 13 = .ok (.iconst 1, 1) := by decide +kernel
theorem d15_14 : decode jdk_42_method_154_code 14 = .ok (.goto 4, 3) := by decide +kernel
theorem d15_18 : decode jdk_42_method_154_code 18 = .ok (.ireturn, 1) := by decide +kernel
theorem ef_il (m : MethodId) (x0 : Addr) : entryFrame m #[(.ref x0)] 1 = mkF m 0 #[rv x0] [] := by first | (simp [entryFrame, mkF, argsToLocals, Value.category]; done) | rfl
def Q_il (Z : State) (st_ : Addr) (cs : Int32) (h0 : Heap) (n0 : Nat) (v : Option Value) (h : Heap) (L : List Loc) : Prop := v = some (.int 1) ∧ Fr n0 L ∧ h = h0
set_option maxRecDepth 65536 in
set_option maxHeartbeats 40000000 in
theorem il (l : Launch) (Z : State) (a0 : Array Value) (hw : ∀ d ∈ tables_1, d.before a0 Z = true) (ws : List Jvm.Cond) (st_ : Addr) (cs : Int32) (h0 : Heap) (n0 : Nat) (Z0 : n0 ≤ h0.size) (pf_O : Old Z n0 h0) (pS_COMPAC : Sta Z Z.heap "java/lang/String" "COMPACT_STRINGS" "Z" (.int cs)) (hcs : ¬ (cs = 0)) (pf_F_st__coder : Fld Z h0 st_ "java/lang/String" "coder" "B" (.int 0)) :
    MetFree l MN15 (head1 (Jvm.Cond.code MN15 jdk_42_method_154_code 1 (some .boolean) :: ws) (Room.mk 0 0 0 0)) (fun a U => a = #[(.ref st_)] ∧ Z.Warmed39 U.vm ∧ U.heap = h0) (fun _ _ _ _ _ => True) (fun _ U o U' => ∃ v L, o = .returned v ∧ Q_il Z st_ cs h0 n0 v U'.heap L ∧ FrameEnd U o U' L (Room.mk 0 0 0 0).cells (Room.mk 0 0 0 0).slots) := by
  refine MetFree.of_bodySF (plainFor_of_name pn_java_lang_String) hisR ?_
  intro p e s m args below meth c s₁ Bd hml0 hP hK
  obtain ⟨rfl, hZ, hh⟩ := hP
  have hx := Bd.exec
  have hby := Bd.bytes
  have hml : c.maxLocals = 1 := hml0
  have hown : s.vm.findClass "java/lang/String" = some m.cls := findClass_of_methodNamed Bd.named
  have hnm := (name_of_methodNamed Bd.named Bd.method).1
  have X0 : Stand p l e (Room.mk 0 0 0 0) s m #[(.ref st_)] below meth c s₁ [] 0 0 := Stand.of_body Bd
  have e0 : s₁.heap = h0 := by rw [← hh, Bd.state]; rfl
  have N0 := Fr.nil n0
  have pre0 : ∀ t, Steps p.tables e below (s₁.setTop (mkF m 0 #[rv st_] [])) t → Steps p.tables e below (s₁.setTop (entryFrame m #[(.ref st_)] 1)) t := fun t k => castTop (ef_il m st_) k
  have wo11 := hw _ (own_m 11 rfl)
  have wo31 := hw _ (own_m 31 rfl)
  obtain ⟨T1, X1, e1, st1⟩ := getS2 X0 hx hZ hown (host := "") (Or.inl wo11) Via.refl e0 (pS_COMPAC.ext pf_O.2) (g := (mkF m 0 #[rv st_] [])) rfl (hb hby d15_0)
  obtain ⟨T2, X2, e2, st2⟩ := getF X1 hx hZ hown (host := "") (Or.inl wo31) Via.refl e1 pf_F_st__coder (g := (mkF m 7 #[rv st_] [(.ref st_)])) rfl rfl (hb hby d15_7)
  obtain ⟨fs, hr, hrun, hended, hW, hsame⟩ := X2.leave (v := some (.int 1)) (fun h => by rw [Bd.returns] at h; cases h)
  refine ⟨_, _, pre0 _ ?_, hrun, hended, _, _, rfl, ?_, ⟨_, rfl⟩, hW, hsame.mono (by decide) (by decide)⟩
  · show Steps _ _ _ (State.setTop _ (mkF m 0 #[rv st_] [])) _
    refine st1 _ ?_
    show Steps _ _ _ (State.setTop _ (mkF m 3 #[rv st_] [(.int cs)])) _
    refine XS.ifNo X1.here hx rfl (hb hby d15_3) rfl ((if0 _ _).trans (feq hcs).1) ?_
    refine XS.aloadN X1.here hx rfl (hb hby d15_6) rfl rfl ?_
    refine st2 _ ?_
    refine XS.ifNo X2.here hx rfl (hb hby d15_10) rfl ((if0 _ _).trans (teq (by decide : (0 : Int32) = 0)).2) ?_
    refine XS.iconst X2.here hx rfl (hb hby d15_13) ?_
    refine XS.goto X2.here hx rfl (pc0 := 14) (pc' := 18) rfl (hb hby d15_14) (by decide) (by decide) ?_
    show Steps _ _ _ (State.setTop _ (mkF m 18 #[rv st_] [(.int 1)])) _
    exact retN X2 hx (t := .boolean) Bd.returns (by simp) (hb hby d15_18) hr
  · show Q_il Z _ _ h0 n0 _ T2.heap _
    rw [e2]
    exact ⟨rfl, N0, rfl⟩
theorem d12_0 : decode jdk_42_method_59_code 0 = .ok (.iload_n 1, 1) := by decide +kernel
theorem d12_1 : decode jdk_42_method_59_code 1 = .ok (.iload_n 2, 1) := by decide +kernel
theorem d12_2 : decode jdk_42_method_59_code 2 = .ok (.aload_n 0, 1) := by decide +kernel
theorem pd_1 : parseMethodDescriptor "()I" = some ⟨[], some .int⟩ := by decide +kernel
theorem d12_3 : decode jdk_42_method_59_code 3 = .ok (.invokevirtual 505, 3) := by decide +kernel
theorem pd_13 : parseMethodDescriptor "(III)I" = some ⟨[.int, .int, .int], some .int⟩ := by decide +kernel
theorem d12_6 : decode jdk_42_method_59_code 6 = .ok (.invokestatic 511, 3) := by decide +kernel
theorem d12_9 : decode jdk_42_method_59_code 9 = .ok (.pop, 1) := by decide +kernel
theorem d12_10 : decode jdk_42_method_59_code 10 = .ok (.aload_n 0, 1) := by decide +kernel
theorem pd_4 : parseMethodDescriptor "()Z" = some ⟨[], some .boolean⟩ := by decide +kernel
theorem d12_11 : decode jdk_42_method_59_code 11 = .ok (.invokevirtual 492, 3) := by decide +kernel
theorem d12_14 : decode jdk_42_method_59_code 14 = .ok (.ifCond .eq 7, 3) := by decide +kernel
theorem d12_17 : decode jdk_42_method_59_code 17 = .ok (.iload_n 2, 1) := by decide +kernel
theorem d12_18 : decode jdk_42_method_59_code 18 = .ok (.iload_n 1, 1) := by decide +kernel
theorem d12_19 : decode jdk_42_method_59_code 19 = .ok (.isub, 1) := by decide +kernel
theorem d12_20 : decode jdk_42_method_59_code 20 = .ok (.ireturn, 1) := by decide +kernel
theorem ef_cpc_1 (m : MethodId) (x0 : Addr) (x1 x2 : Int32) : entryFrame m #[(.ref x0), (.int x1), (.int x2)] 3 = mkF m 0 #[rv x0, iv x1, iv x2] [] := by first | (simp [entryFrame, mkF, argsToLocals, Value.category]; done) | rfl
def Q_cpc_1 (Z : State) (st_ sv_ : Addr) (c0 cs : Int32) (fm : Value) (h0 : Heap) (n0 : Nat) (v : Option Value) (h : Heap) (L : List Loc) : Prop := v = some (.int 1) ∧ Fr n0 L ∧ h = h0
set_option maxRecDepth 65536 in
set_option maxHeartbeats 40000000 in
theorem cpc_1 (l : Launch) (Z : State) (a0 : Array Value) (hw : ∀ d ∈ tables_1, d.before a0 Z = true) (ws : List Jvm.Cond) (st_ sv_ : Addr) (c0 cs : Int32) (fm : Value) (h0 : Heap) (n0 : Nat) (Z0 : n0 ≤ h0.size) (pf_O : Old Z n0 h0) (pS_COMPAC : Sta Z Z.heap "java/lang/String" "COMPACT_STRINGS" "Z" (.int cs)) (hcs : ¬ (cs = 0)) (pS_SIOOBE : Sta Z Z.heap "jdk/internal/util/Preconditions" "SIOOBE_FORMATTER" "Ljava/util/function/BiFunction;" fm) (rfm : fm.isRef = true) (pf_E_st_ : Exa Z h0 st_ "java/lang/String") (pf_F_st__value : Fld Z h0 st_ "java/lang/String" "value" "[B" (.ref sv_)) (pf_F_st__coder : Fld Z h0 st_ "java/lang/String" "coder" "B" (.int 0)) (pf_A_sv_ : Av Z h0 sv_ .byte (1 : Int32) (own_vs [c0]) (.int 0)) (hrA : ∀ c ∈ ([c0] : List Int32), ¬ c < 0 ∧ ¬ (255 : Int32) < c) :
    MetFree l MN12 (head1 (Jvm.Cond.code MN12 jdk_42_method_59_code 3 (some .int) :: ws) (Room.mk 2 0 0 29)) (fun a U => a = #[(.ref st_), (.int 0), (.int 1)] ∧ Z.Warmed39 U.vm ∧ U.heap = h0) (fun _ _ _ _ _ => True) (fun _ U o U' => ∃ v L, o = .returned v ∧ Q_cpc_1 Z st_ sv_ c0 cs fm h0 n0 v U'.heap L ∧ FrameEnd U o U' L (Room.mk 2 0 0 29).cells (Room.mk 2 0 0 29).slots) := by
  refine MetFree.of_bodySF (plainFor_of_name pn_java_lang_String) hisR ?_
  intro p e s m args below meth c s₁ Bd hml0 hP hK
  obtain ⟨rfl, hZ, hh⟩ := hP
  have hx := Bd.exec
  have hby := Bd.bytes
  have hml : c.maxLocals = 3 := hml0
  have hown : s.vm.findClass "java/lang/String" = some m.cls := findClass_of_methodNamed Bd.named
  have hnm := (name_of_methodNamed Bd.named Bd.method).1
  have X0 : Stand p l e (Room.mk 2 0 0 29) s m #[(.ref st_), (.int 0), (.int 1)] below meth c s₁ [] 0 0 := Stand.of_body Bd
  have e0 : s₁.heap = h0 := by rw [← hh, Bd.state]; rfl
  have N0 := Fr.nil n0
  have pre0 : ∀ t, Steps p.tables e below (s₁.setTop (mkF m 0 #[rv st_, iv 0, iv 1] [])) t → Steps p.tables e below (s₁.setTop (entryFrame m #[(.ref st_), (.int 0), (.int 1)] 3)) t := fun t k => castTop (ef_cpc_1 m st_ (0 : Int32) (1 : Int32)) k
  have wo9 := hw _ (own_m 9 rfl)
  have wo17 := hw _ (own_m 17 rfl)
  have wo42 := hw _ (own_m 42 rfl)
  have wo50 := hw _ (own_m 50 rfl)
  have wo51 := hw _ (own_m 51 rfl)
  have wo52 := hw _ (own_m 52 rfl)
  have wo64 := hw _ (own_m 64 rfl)
  have wo65 := hw _ (own_m 65 rfl)
  have wo66 := hw _ (own_m 66 rfl)
  have wo67 := hw _ (own_m 67 rfl)
  have wo72 := hw _ (own_m 72 rfl)
  have wo73 := hw _ (own_m 73 rfl)
  have wo74 := hw _ (own_m 74 rfl)
  have wo75 := hw _ (own_m 75 rfl)
  have wo76 := hw _ (own_m 76 rfl)
  obtain ⟨kv2, hv3⟩ := id pf_A_sv_
  have hws1 : ∀ d ∈ StrChars.Road.wordsLen, d.before a0 Z = true := fun d hd => hw d ((by decide +kernel : ∀ d ∈ StrChars.Road.wordsLen, d ∈ tables_1) d hd)
  obtain ⟨cq1, kq1, q1a, q1b, q1c⟩ := isOf hZ e0 pf_E_st_
  obtain ⟨_, _, ⟨T1, L1, k1, n1⟩, -, X1, ⟨Lc1, hQ1, l1, y1, z1⟩, st1⟩ := X0.virtualBack hx (y := MN10) (z := MN10) hown (mvT hZ wo64) (mvT hZ wo50) (notFace_of_selects (args := #[]) (mvT hZ wo52)) (mvT hZ wo52) (mvT hZ wo51) (by decide) (StrChars.Road.lenW (W := 2) hZ hws1 (kI := 4) wo17 pf_E_st_ pf_F_st__value pf_F_st__coder hv3 (own_cod (by rfl) hrA) (own_wid hrA) (pS_COMPAC.ext pf_O.2) hcs (Nat.le_of_ble_eq_true rfl) (by decide) (by decide)) q1a q1c (g := (mkF m 3 #[rv st_, iv 0, iv 1] [(.ref st_), (.int 1), (.int 0)])) rfl (by rw [hml]; rfl) (Steps.refl _) (argsL := []) (rest := [(.int 1), (.int 0)]) (lenOf pd_1 rfl) rfl (by show 2 * 0 + _ ≤ _; exact Nat.le_of_eq rfl) (hb hby d12_3) (fun _ _ => ⟨rfl, e0, (by decide : 0 + 0 ≤ _), (by decide : 0 + 0 ≤ _)⟩)
  dsimp only [Pt.U, Pt.locs, Pt.cells, Pt.slots] at X1 l1 y1 z1 st1 hQ1
  rw [l1, y1, z1] at X1
  obtain ⟨rfl, hl1, K1q⟩ := hQ1
  rw [hl1, List.append_nil] at X1
  obtain ⟨_, _, ⟨T4, L4, k4, n4⟩, -, X4, ⟨Lc4, hQ4, l4, y4, z4⟩, st4⟩ := Jvm.LawKit.callS X1 hx (y := MN13) hown (mvT hZ wo65) (mvT hZ wo66) (mvT hZ wo42) (mvT hZ wo67) (by decide) (backOf (W := 0) (cfi_1 l Z a0 hw []  h0 n0 Z0 ) hZ wo67 wo42 (by decide) (by decide)) (g := (mkF m 6 #[rv st_, iv 0, iv 1] [(.int 1), (.int 1), (.int 0)])) rfl (by rw [hml]; rfl) (argsL := [(.int 0), (.int 1), (.int 1)]) (rest := []) (lenOf pd_13 rfl) rfl (by show 2 * 0 + _ ≤ _; exact Nat.le_of_eq rfl) (hb hby d12_6) (fun _ _ => ⟨rfl, K1q, (by decide : 0 + 0 ≤ _), (by decide : 0 + 0 ≤ _)⟩)
  dsimp only [Pt.U, Pt.locs, Pt.cells, Pt.slots] at X4 l4 y4 z4 st4 hQ4
  rw [l4, y4, z4] at X4
  obtain ⟨rfl, N4q, K4q⟩ := hQ4
  have N5 := Fr.app N0 N4q
  obtain ⟨cq6, kq6, q6a, q6b, q6c⟩ := isOf hZ K4q pf_E_st_
  obtain ⟨_, _, ⟨T6, L6, k6, n6⟩, -, X6, ⟨Lc6, hQ6, l6, y6, z6⟩, st6⟩ := X4.virtualBack hx (y := MN15) (z := MN15) hown (mvT hZ wo72) (mvT hZ wo73) (notFace_of_selects (args := #[]) (mvT hZ wo75)) (mvT hZ wo75) (mvT hZ wo74) (by decide) (backOf (W := 0) (il l Z a0 hw [] st_ cs h0 n0 Z0 pf_O pS_COMPAC hcs pf_F_st__coder) hZ wo76 wo9 (by decide) (by decide)) q6a q6c (g := (mkF m 11 #[rv st_, iv 0, iv 1] [(.ref st_)])) rfl (by rw [hml]; rfl) (Steps.refl _) (argsL := []) (rest := []) (lenOf pd_4 rfl) rfl (by show 2 * 0 + _ ≤ _; exact Nat.le_of_eq rfl) (hb hby d12_11) (fun _ _ => ⟨rfl, K4q, (by decide : 0 + 0 ≤ _), (by decide : 0 + 0 ≤ _)⟩)
  dsimp only [Pt.U, Pt.locs, Pt.cells, Pt.slots] at X6 l6 y6 z6 st6 hQ6
  rw [l6, y6, z6] at X6
  obtain ⟨rfl, N6q, K6q⟩ := hQ6
  have N7 := Fr.app N5 N6q
  obtain ⟨fs, hr, hrun, hended, hW, hsame⟩ := X6.leave (v := some (.int 1)) (fun h => by rw [Bd.returns] at h; cases h)
  refine ⟨_, _, pre0 _ ?_, hrun, hended, _, _, rfl, ?_, ⟨_, rfl⟩, hW, hsame.mono (by decide) (by decide)⟩
  · show Steps _ _ _ (State.setTop _ (mkF m 0 #[rv st_, iv 0, iv 1] [])) _
    refine XS.iloadN X0.here hx rfl (hb hby d12_0) rfl ?_
    show Steps _ _ _ (State.setTop _ (mkF m 1 #[rv st_, iv 0, iv 1] [(.int 0)])) _
    refine XS.iloadN X0.here hx rfl (hb hby d12_1) rfl ?_
    refine XS.aloadN X0.here hx rfl (hb hby d12_2) rfl rfl ?_
    refine st1.trans ?_
    refine st4 _ ?_
    refine XS.pop X4.here hx rfl (hb hby d12_9) rfl rfl ?_
    refine XS.aloadN X4.here hx rfl (hb hby d12_10) rfl rfl ?_
    refine st6.trans ?_
    refine XS.ifNo X6.here hx rfl (hb hby d12_14) rfl ((if0 _ _).trans (feq (by decide : ¬ ((1 : Int32) = 0))).1) ?_
    refine XS.iloadN X6.here hx rfl (hb hby d12_17) rfl ?_
    show Steps _ _ _ (State.setTop _ (mkF m 18 #[rv st_, iv 0, iv 1] [(.int 1)])) _
    refine XS.iloadN X6.here hx rfl (hb hby d12_18) rfl ?_
    refine XS.isub X6.here hx rfl (hb hby d12_19) rfl ?_
    show Steps _ _ _ (State.setTop _ (mkF m 20 #[rv st_, iv 0, iv 1] [(.int 1)])) _
    exact retI X6 hx Bd.returns (hb hby d12_20) hr
  · show Q_cpc_1 Z _ _ _ _ _ h0 n0 _ T6.heap _
    rw [K6q]
    exact ⟨rfl, N7, rfl⟩
theorem ef_cpc_2 (m : MethodId) (x0 : Addr) (x1 x2 : Int32) : entryFrame m #[(.ref x0), (.int x1), (.int x2)] 3 = mkF m 0 #[rv x0, iv x1, iv x2] [] := by first | (simp [entryFrame, mkF, argsToLocals, Value.category]; done) | rfl
def Q_cpc_2 (Z : State) (st_ sv_ : Addr) (c0 c1 cs : Int32) (fm : Value) (h0 : Heap) (n0 : Nat) (v : Option Value) (h : Heap) (L : List Loc) : Prop := v = some (.int 2) ∧ Fr n0 L ∧ h = h0
set_option maxRecDepth 65536 in
set_option maxHeartbeats 40000000 in
theorem cpc_2 (l : Launch) (Z : State) (a0 : Array Value) (hw : ∀ d ∈ tables_1, d.before a0 Z = true) (ws : List Jvm.Cond) (st_ sv_ : Addr) (c0 c1 cs : Int32) (fm : Value) (h0 : Heap) (n0 : Nat) (Z0 : n0 ≤ h0.size) (pf_O : Old Z n0 h0) (pS_COMPAC : Sta Z Z.heap "java/lang/String" "COMPACT_STRINGS" "Z" (.int cs)) (hcs : ¬ (cs = 0)) (pS_SIOOBE : Sta Z Z.heap "jdk/internal/util/Preconditions" "SIOOBE_FORMATTER" "Ljava/util/function/BiFunction;" fm) (rfm : fm.isRef = true) (pf_E_st_ : Exa Z h0 st_ "java/lang/String") (pf_F_st__value : Fld Z h0 st_ "java/lang/String" "value" "[B" (.ref sv_)) (pf_F_st__coder : Fld Z h0 st_ "java/lang/String" "coder" "B" (.int 0)) (pf_A_sv_ : Av Z h0 sv_ .byte (2 : Int32) (own_vs [c0, c1]) (.int 0)) (hrA : ∀ c ∈ ([c0, c1] : List Int32), ¬ c < 0 ∧ ¬ (255 : Int32) < c) :
    MetFree l MN12 (head1 (Jvm.Cond.code MN12 jdk_42_method_59_code 3 (some .int) :: ws) (Room.mk 2 0 0 29)) (fun a U => a = #[(.ref st_), (.int 0), (.int 2)] ∧ Z.Warmed39 U.vm ∧ U.heap = h0) (fun _ _ _ _ _ => True) (fun _ U o U' => ∃ v L, o = .returned v ∧ Q_cpc_2 Z st_ sv_ c0 c1 cs fm h0 n0 v U'.heap L ∧ FrameEnd U o U' L (Room.mk 2 0 0 29).cells (Room.mk 2 0 0 29).slots) := by
  refine MetFree.of_bodySF (plainFor_of_name pn_java_lang_String) hisR ?_
  intro p e s m args below meth c s₁ Bd hml0 hP hK
  obtain ⟨rfl, hZ, hh⟩ := hP
  have hx := Bd.exec
  have hby := Bd.bytes
  have hml : c.maxLocals = 3 := hml0
  have hown : s.vm.findClass "java/lang/String" = some m.cls := findClass_of_methodNamed Bd.named
  have hnm := (name_of_methodNamed Bd.named Bd.method).1
  have X0 : Stand p l e (Room.mk 2 0 0 29) s m #[(.ref st_), (.int 0), (.int 2)] below meth c s₁ [] 0 0 := Stand.of_body Bd
  have e0 : s₁.heap = h0 := by rw [← hh, Bd.state]; rfl
  have N0 := Fr.nil n0
  have pre0 : ∀ t, Steps p.tables e below (s₁.setTop (mkF m 0 #[rv st_, iv 0, iv 2] [])) t → Steps p.tables e below (s₁.setTop (entryFrame m #[(.ref st_), (.int 0), (.int 2)] 3)) t := fun t k => castTop (ef_cpc_2 m st_ (0 : Int32) (2 : Int32)) k
  have wo9 := hw _ (own_m 9 rfl)
  have wo17 := hw _ (own_m 17 rfl)
  have wo42 := hw _ (own_m 42 rfl)
  have wo50 := hw _ (own_m 50 rfl)
  have wo51 := hw _ (own_m 51 rfl)
  have wo52 := hw _ (own_m 52 rfl)
  have wo64 := hw _ (own_m 64 rfl)
  have wo65 := hw _ (own_m 65 rfl)
  have wo66 := hw _ (own_m 66 rfl)
  have wo67 := hw _ (own_m 67 rfl)
  have wo72 := hw _ (own_m 72 rfl)
  have wo73 := hw _ (own_m 73 rfl)
  have wo74 := hw _ (own_m 74 rfl)
  have wo75 := hw _ (own_m 75 rfl)
  have wo76 := hw _ (own_m 76 rfl)
  obtain ⟨kv2, hv3⟩ := id pf_A_sv_
  have hws1 : ∀ d ∈ StrChars.Road.wordsLen, d.before a0 Z = true := fun d hd => hw d ((by decide +kernel : ∀ d ∈ StrChars.Road.wordsLen, d ∈ tables_1) d hd)
  obtain ⟨cq1, kq1, q1a, q1b, q1c⟩ := isOf hZ e0 pf_E_st_
  obtain ⟨_, _, ⟨T1, L1, k1, n1⟩, -, X1, ⟨Lc1, hQ1, l1, y1, z1⟩, st1⟩ := X0.virtualBack hx (y := MN10) (z := MN10) hown (mvT hZ wo64) (mvT hZ wo50) (notFace_of_selects (args := #[]) (mvT hZ wo52)) (mvT hZ wo52) (mvT hZ wo51) (by decide) (StrChars.Road.lenW (W := 2) hZ hws1 (kI := 4) wo17 pf_E_st_ pf_F_st__value pf_F_st__coder hv3 (own_cod (by rfl) hrA) (own_wid hrA) (pS_COMPAC.ext pf_O.2) hcs (Nat.le_of_ble_eq_true rfl) (by decide) (by decide)) q1a q1c (g := (mkF m 3 #[rv st_, iv 0, iv 2] [(.ref st_), (.int 2), (.int 0)])) rfl (by rw [hml]; rfl) (Steps.refl _) (argsL := []) (rest := [(.int 2), (.int 0)]) (lenOf pd_1 rfl) rfl (by show 2 * 0 + _ ≤ _; exact Nat.le_of_eq rfl) (hb hby d12_3) (fun _ _ => ⟨rfl, e0, (by decide : 0 + 0 ≤ _), (by decide : 0 + 0 ≤ _)⟩)
  dsimp only [Pt.U, Pt.locs, Pt.cells, Pt.slots] at X1 l1 y1 z1 st1 hQ1
  rw [l1, y1, z1] at X1
  obtain ⟨rfl, hl1, K1q⟩ := hQ1
  rw [hl1, List.append_nil] at X1
  obtain ⟨_, _, ⟨T4, L4, k4, n4⟩, -, X4, ⟨Lc4, hQ4, l4, y4, z4⟩, st4⟩ := Jvm.LawKit.callS X1 hx (y := MN13) hown (mvT hZ wo65) (mvT hZ wo66) (mvT hZ wo42) (mvT hZ wo67) (by decide) (backOf (W := 0) (cfi_2 l Z a0 hw []  h0 n0 Z0 ) hZ wo67 wo42 (by decide) (by decide)) (g := (mkF m 6 #[rv st_, iv 0, iv 2] [(.int 2), (.int 2), (.int 0)])) rfl (by rw [hml]; rfl) (argsL := [(.int 0), (.int 2), (.int 2)]) (rest := []) (lenOf pd_13 rfl) rfl (by show 2 * 0 + _ ≤ _; exact Nat.le_of_eq rfl) (hb hby d12_6) (fun _ _ => ⟨rfl, K1q, (by decide : 0 + 0 ≤ _), (by decide : 0 + 0 ≤ _)⟩)
  dsimp only [Pt.U, Pt.locs, Pt.cells, Pt.slots] at X4 l4 y4 z4 st4 hQ4
  rw [l4, y4, z4] at X4
  obtain ⟨rfl, N4q, K4q⟩ := hQ4
  have N5 := Fr.app N0 N4q
  obtain ⟨cq6, kq6, q6a, q6b, q6c⟩ := isOf hZ K4q pf_E_st_
  obtain ⟨_, _, ⟨T6, L6, k6, n6⟩, -, X6, ⟨Lc6, hQ6, l6, y6, z6⟩, st6⟩ := X4.virtualBack hx (y := MN15) (z := MN15) hown (mvT hZ wo72) (mvT hZ wo73) (notFace_of_selects (args := #[]) (mvT hZ wo75)) (mvT hZ wo75) (mvT hZ wo74) (by decide) (backOf (W := 0) (il l Z a0 hw [] st_ cs h0 n0 Z0 pf_O pS_COMPAC hcs pf_F_st__coder) hZ wo76 wo9 (by decide) (by decide)) q6a q6c (g := (mkF m 11 #[rv st_, iv 0, iv 2] [(.ref st_)])) rfl (by rw [hml]; rfl) (Steps.refl _) (argsL := []) (rest := []) (lenOf pd_4 rfl) rfl (by show 2 * 0 + _ ≤ _; exact Nat.le_of_eq rfl) (hb hby d12_11) (fun _ _ => ⟨rfl, K4q, (by decide : 0 + 0 ≤ _), (by decide : 0 + 0 ≤ _)⟩)
  dsimp only [Pt.U, Pt.locs, Pt.cells, Pt.slots] at X6 l6 y6 z6 st6 hQ6
  rw [l6, y6, z6] at X6
  obtain ⟨rfl, N6q, K6q⟩ := hQ6
  have N7 := Fr.app N5 N6q
  obtain ⟨fs, hr, hrun, hended, hW, hsame⟩ := X6.leave (v := some (.int 2)) (fun h => by rw [Bd.returns] at h; cases h)
  refine ⟨_, _, pre0 _ ?_, hrun, hended, _, _, rfl, ?_, ⟨_, rfl⟩, hW, hsame.mono (by decide) (by decide)⟩
  · show Steps _ _ _ (State.setTop _ (mkF m 0 #[rv st_, iv 0, iv 2] [])) _
    refine XS.iloadN X0.here hx rfl (hb hby d12_0) rfl ?_
    show Steps _ _ _ (State.setTop _ (mkF m 1 #[rv st_, iv 0, iv 2] [(.int 0)])) _
    refine XS.iloadN X0.here hx rfl (hb hby d12_1) rfl ?_
    refine XS.aloadN X0.here hx rfl (hb hby d12_2) rfl rfl ?_
    refine st1.trans ?_
    refine st4 _ ?_
    refine XS.pop X4.here hx rfl (hb hby d12_9) rfl rfl ?_
    refine XS.aloadN X4.here hx rfl (hb hby d12_10) rfl rfl ?_
    refine st6.trans ?_
    refine XS.ifNo X6.here hx rfl (hb hby d12_14) rfl ((if0 _ _).trans (feq (by decide : ¬ ((1 : Int32) = 0))).1) ?_
    refine XS.iloadN X6.here hx rfl (hb hby d12_17) rfl ?_
    show Steps _ _ _ (State.setTop _ (mkF m 18 #[rv st_, iv 0, iv 2] [(.int 2)])) _
    refine XS.iloadN X6.here hx rfl (hb hby d12_18) rfl ?_
    refine XS.isub X6.here hx rfl (hb hby d12_19) rfl ?_
    show Steps _ _ _ (State.setTop _ (mkF m 20 #[rv st_, iv 0, iv 2] [(.int 2)])) _
    exact retI X6 hx Bd.returns (hb hby d12_20) hr
  · show Q_cpc_2 Z _ _ _ _ _ _ h0 n0 _ T6.heap _
    rw [K6q]
    exact ⟨rfl, N7, rfl⟩
theorem d16_0 : decode prog_20_method_9_code 0 = .ok (.iconst 0, 1) := by decide +kernel
theorem d16_1 : decode prog_20_method_9_code 1 = .ok (.istore_n 1, 1) := by decide +kernel
theorem d16_2 : decode prog_20_method_9_code 2 = .ok (.iload_n 1, 1) := by decide +kernel
theorem d16_3 : decode prog_20_method_9_code 3 = .ok (.aload_n 0, 1) := by decide +kernel
theorem d16_4 : decode prog_20_method_9_code 4 = .ok (.invokevirtual 33, 3) := by decide +kernel
theorem d16_7 : decode prog_20_method_9_code 7 = .ok (.if_icmp .ge 53, 3) := by decide +kernel
theorem d16_10 : decode prog_20_method_9_code 10 = .ok (.aload_n 0, 1) := by decide +kernel
theorem d16_11 : decode prog_20_method_9_code 11 = .ok (.iload_n 1, 1) := by decide +kernel
theorem pd_8 : parseMethodDescriptor "(I)C" = some ⟨[.int], some .char⟩ := by decide +kernel
theorem d16_12 : decode prog_20_method_9_code 12 = .ok (.invokevirtual 137, 3) := by decide +kernel
theorem d16_15 : decode prog_20_method_9_code 15 = .ok (.istore_n 2, 1) := by decide +kernel
theorem d16_16 : decode prog_20_method_9_code 16 = .ok (.iload_n 2, 1) := by decide +kernel
theorem d16_17 : decode prog_20_method_9_code 17 = .ok (.bipush 32, 2) := by decide +kernel
theorem d16_19 : decode prog_20_method_9_code 19 = .ok (.if_icmp .le 16, 3) := by decide +kernel
theorem d16_22 : decode prog_20_method_9_code 22 = .ok (.iload_n 2, 1) := by decide +kernel
theorem d16_23 : decode prog_20_method_9_code 23 = .ok (.sipush 128, 3) := by decide +kernel
theorem d16_26 : decode prog_20_method_9_code 26 = .ok (.if_icmp .ge 9, 3) := by decide +kernel
theorem d16_29 : decode prog_20_method_9_code 29 = .ok (.iinc 1 1, 3) := by decide +kernel
theorem d16_32 : decode prog_20_method_9_code 32 = .ok (.goto 25, 3) := by decide +kernel
theorem d16_57 : decode prog_20_method_9_code 57 = .ok (.goto (-55), 3) := by decide +kernel
theorem d16_60 : decode prog_20_method_9_code 60 = .ok (.iconst (-1), 1) := by decide +kernel
theorem d16_61 : decode prog_20_method_9_code 61 = .ok (.ireturn, 1) := by decide +kernel
theorem pn_com_example_arbiter_arbiter_Name : plainName "com/example/arbiter/arbiter/Name" = true := by first | (simp [plainName, overriddenIn]; done) | decide +kernel
theorem ef_ff_1 (m : MethodId) (x0 : Addr) : entryFrame m #[(.ref x0)] 4 = mkF m 0 #[rv x0, .unset, .unset, .unset] [] := by first | (simp [entryFrame, mkF, argsToLocals, Value.category]; done) | rfl
def Q_ff_1 (Z : State) (st_ sv_ : Addr) (c0 cs : Int32) (fm : Value) (h0 : Heap) (n0 : Nat) (v : Option Value) (h : Heap) (L : List Loc) : Prop := v = some (.int (-1 : Int32)) ∧ Fr n0 L ∧ h = h0
set_option maxRecDepth 65536 in
set_option maxHeartbeats 40000000 in
theorem ff_1 (l : Launch) (Z : State) (a0 : Array Value) (hw : ∀ d ∈ tables_1, d.before a0 Z = true) (ws : List Jvm.Cond) (st_ sv_ : Addr) (c0 cs : Int32) (fm : Value) (h0 : Heap) (n0 : Nat) (Z0 : n0 ≤ h0.size) (pf_O : Old Z n0 h0) (pS_COMPAC : Sta Z Z.heap "java/lang/String" "COMPACT_STRINGS" "Z" (.int cs)) (hcs : ¬ (cs = 0)) (pS_SIOOBE : Sta Z Z.heap "jdk/internal/util/Preconditions" "SIOOBE_FORMATTER" "Ljava/util/function/BiFunction;" fm) (rfm : fm.isRef = true) (pf_E_st_ : Exa Z h0 st_ "java/lang/String") (pf_F_st__value : Fld Z h0 st_ "java/lang/String" "value" "[B" (.ref sv_)) (pf_F_st__coder : Fld Z h0 st_ "java/lang/String" "coder" "B" (.int 0)) (pf_A_sv_ : Av Z h0 sv_ .byte (1 : Int32) (own_vs [c0]) (.int 0)) (hrA : ∀ c ∈ ([c0] : List Int32), ¬ c < 0 ∧ ¬ (255 : Int32) < c) (hloc0 : (32 : Int32) < c0) (hhic0 : c0 < 128) :
    MetFree l MN16 (head1 (Jvm.Cond.code MN16 prog_20_method_9_code 4 (some .int) :: ws) (Room.mk 4 0 0 53)) (fun a U => a = #[(.ref st_)] ∧ Z.Warmed39 U.vm ∧ U.heap = h0) (fun _ _ _ _ _ => True) (fun _ U o U' => ∃ v L, o = .returned v ∧ Q_ff_1 Z st_ sv_ c0 cs fm h0 n0 v U'.heap L ∧ FrameEnd U o U' L (Room.mk 4 0 0 53).cells (Room.mk 4 0 0 53).slots) := by
  refine MetFree.of_bodySF (plainFor_of_name pn_com_example_arbiter_arbiter_Name) hisR ?_
  intro p e s m args below meth c s₁ Bd hml0 hP hK
  obtain ⟨rfl, hZ, hh⟩ := hP
  have hx := Bd.exec
  have hby := Bd.bytes
  have hml : c.maxLocals = 4 := hml0
  have hown : s.vm.findClass "com/example/arbiter/arbiter/Name" = some m.cls := findClass_of_methodNamed Bd.named
  have hnm := (name_of_methodNamed Bd.named Bd.method).1
  have X0 : Stand p l e (Room.mk 4 0 0 53) s m #[(.ref st_)] below meth c s₁ [] 0 0 := Stand.of_body Bd
  have e0 : s₁.heap = h0 := by rw [← hh, Bd.state]; rfl
  have N0 := Fr.nil n0
  have pre0 : ∀ t, Steps p.tables e below (s₁.setTop (mkF m 0 #[rv st_, .unset, .unset, .unset] [])) t → Steps p.tables e below (s₁.setTop (entryFrame m #[(.ref st_)] 4)) t := fun t k => castTop (ef_ff_1 m st_) k
  have wo17 := hw _ (own_m 17 rfl)
  have wo49 := hw _ (own_m 49 rfl)
  have wo50 := hw _ (own_m 50 rfl)
  have wo51 := hw _ (own_m 51 rfl)
  have wo52 := hw _ (own_m 52 rfl)
  have wo80 := hw _ (own_m 80 rfl)
  have wo81 := hw _ (own_m 81 rfl)
  have wo82 := hw _ (own_m 82 rfl)
  have wo83 := hw _ (own_m 83 rfl)
  obtain ⟨kv2, hv3⟩ := id pf_A_sv_
  have hws1 : ∀ d ∈ StrChars.Road.wordsLen, d.before a0 Z = true := fun d hd => hw d ((by decide +kernel : ∀ d ∈ StrChars.Road.wordsLen, d ∈ tables_1) d hd)
  obtain ⟨cq1, kq1, q1a, q1b, q1c⟩ := isOf hZ e0 pf_E_st_
  obtain ⟨_, _, ⟨T1, L1, k1, n1⟩, -, X1, ⟨Lc1, hQ1, l1, y1, z1⟩, st1⟩ := X0.virtualBack hx (y := MN10) (z := MN10) hown (mvT hZ wo49) (mvT hZ wo50) (notFace_of_selects (args := #[]) (mvT hZ wo52)) (mvT hZ wo52) (mvT hZ wo51) (by decide) (StrChars.Road.lenW (W := 1) hZ hws1 (kI := 4) wo17 pf_E_st_ pf_F_st__value pf_F_st__coder hv3 (own_cod (by rfl) hrA) (own_wid hrA) (pS_COMPAC.ext pf_O.2) hcs (Nat.le_of_ble_eq_true rfl) (by decide) (by decide)) q1a q1c (g := (mkF m 4 #[rv st_, iv 0, .unset, .unset] [(.ref st_), (.int 0)])) rfl (by rw [hml]; rfl) (Steps.refl _) (argsL := []) (rest := [(.int 0)]) (lenOf pd_1 rfl) rfl (by show 2 * 0 + _ ≤ _; exact Nat.le_of_eq rfl) (hb hby d16_4) (fun _ _ => ⟨rfl, e0, (by decide : 0 + 0 ≤ _), (by decide : 0 + 0 ≤ _)⟩)
  dsimp only [Pt.U, Pt.locs, Pt.cells, Pt.slots] at X1 l1 y1 z1 st1 hQ1
  rw [l1, y1, z1] at X1
  obtain ⟨rfl, hl1, K1q⟩ := hQ1
  rw [hl1, List.append_nil] at X1
  obtain ⟨kv5, hv6⟩ := id pf_A_sv_
  have hws4 : ∀ d ∈ StrChars.Road.wordsChN, d.before a0 Z = true := fun d hd => hw d ((by decide +kernel : ∀ d ∈ StrChars.Road.wordsChN, d ∈ tables_1) d hd)
  obtain ⟨cq4, kq4, q4a, q4b, q4c⟩ := isOf hZ K1q pf_E_st_
  obtain ⟨_, _, ⟨T4, L4, k4, n4⟩, -, X4, ⟨Lc4, hQ4, l4, y4, z4⟩, st4⟩ := X1.virtualBack hx (y := MN17) (z := MN17) hown (mvT hZ wo80) (mvT hZ wo81) (notFace_of_selects (args := #[]) (mvT hZ wo83)) (mvT hZ wo83) (mvT hZ wo82) (by decide) (StrChars.Road.chN (W := 0) hZ hws4 (kI := 4) wo17 (i := 0) pf_E_st_ pf_F_st__value pf_F_st__coder hv6 (own_cod (by rfl) hrA) (own_wid hrA) (pS_COMPAC.ext pf_O.2) hcs (pS_SIOOBE.ext pf_O.2) rfm (Nat.le_of_ble_eq_true rfl) (Nat.le_of_ble_eq_true rfl) rfl (by decide) (by decide)) q4a q4c (g := (mkF m 12 #[rv st_, iv 0, .unset, .unset] [(.int 0), (.ref st_)])) rfl (by rw [hml]; rfl) (Steps.refl _) (argsL := [(.int 0)]) (rest := []) (lenOf pd_8 rfl) rfl (by show 2 * 0 + _ ≤ _; exact Nat.le_of_eq rfl) (hb hby d16_12) (fun _ _ => ⟨rfl, K1q, (by decide : 0 + 0 ≤ _), (by decide : 0 + 0 ≤ _)⟩)
  dsimp only [Pt.U, Pt.locs, Pt.cells, Pt.slots] at X4 l4 y4 z4 st4 hQ4
  rw [l4, y4, z4] at X4
  obtain ⟨rfl, hl4, K4q⟩ := hQ4
  rw [hl4, List.append_nil] at X4
  obtain ⟨kv8, hv9⟩ := id pf_A_sv_
  have hws7 : ∀ d ∈ StrChars.Road.wordsLen, d.before a0 Z = true := fun d hd => hw d ((by decide +kernel : ∀ d ∈ StrChars.Road.wordsLen, d ∈ tables_1) d hd)
  obtain ⟨cq7, kq7, q7a, q7b, q7c⟩ := isOf hZ K4q pf_E_st_
  obtain ⟨_, _, ⟨T7, L7, k7, n7⟩, -, X7, ⟨Lc7, hQ7, l7, y7, z7⟩, st7⟩ := X4.virtualBack hx (y := MN10) (z := MN10) hown (mvT hZ wo49) (mvT hZ wo50) (notFace_of_selects (args := #[]) (mvT hZ wo52)) (mvT hZ wo52) (mvT hZ wo51) (by decide) (StrChars.Road.lenW (W := 1) hZ hws7 (kI := 4) wo17 pf_E_st_ pf_F_st__value pf_F_st__coder hv9 (own_cod (by rfl) hrA) (own_wid hrA) (pS_COMPAC.ext pf_O.2) hcs (Nat.le_of_ble_eq_true rfl) (by decide) (by decide)) q7a q7c (g := (mkF m 4 #[rv st_, iv 1, iv c0, .unset] [(.ref st_), (.int 1)])) rfl (by rw [hml]; rfl) (Steps.refl _) (argsL := []) (rest := [(.int 1)]) (lenOf pd_1 rfl) rfl (by show 2 * 0 + _ ≤ _; exact Nat.le_of_eq rfl) (hb hby d16_4) (fun _ _ => ⟨rfl, K4q, (by decide : 0 + 0 ≤ _), (by decide : 0 + 0 ≤ _)⟩)
  dsimp only [Pt.U, Pt.locs, Pt.cells, Pt.slots] at X7 l7 y7 z7 st7 hQ7
  rw [l7, y7, z7] at X7
  obtain ⟨rfl, hl7, K7q⟩ := hQ7
  rw [hl7, List.append_nil] at X7
  obtain ⟨fs, hr, hrun, hended, hW, hsame⟩ := X7.leave (v := some (.int (-1 : Int32))) (fun h => by rw [Bd.returns] at h; cases h)
  refine ⟨_, _, pre0 _ ?_, hrun, hended, _, _, rfl, ?_, ⟨_, rfl⟩, hW, hsame.mono (by decide) (by decide)⟩
  · show Steps _ _ _ (State.setTop _ (mkF m 0 #[rv st_, .unset, .unset, .unset] [])) _
    refine XS.iconst X0.here hx rfl (hb hby d16_0) ?_
    show Steps _ _ _ (State.setTop _ (mkF m 1 #[rv st_, .unset, .unset, .unset] [(.int 0)])) _
    refine XS.istoreN X0.here hx rfl (hb hby d16_1) rfl (l' := #[rv st_, iv 0, .unset, .unset]) rfl ?_
    refine XS.iloadN X0.here hx rfl (hb hby d16_2) rfl ?_
    refine XS.aloadN X0.here hx rfl (hb hby d16_3) rfl rfl ?_
    refine st1.trans ?_
    refine XS.icmpNo X1.here hx rfl (hb hby d16_7) rfl (tlt (by decide : (0 : Int32) < 1)).2.1 ?_
    refine XS.aloadN X1.here hx rfl (hb hby d16_10) rfl rfl ?_
    refine XS.iloadN X1.here hx rfl (hb hby d16_11) rfl ?_
    refine st4.trans ?_
    refine XS.istoreN X4.here hx rfl (hb hby d16_15) rfl (l' := #[rv st_, iv 0, iv c0, .unset]) rfl ?_
    show Steps _ _ _ (State.setTop _ (mkF m 16 #[rv st_, iv 0, iv c0, .unset] [])) _
    refine XS.iloadN X4.here hx rfl (hb hby d16_16) rfl ?_
    refine XS.bipush X4.here hx rfl (hb hby d16_17) ?_
    refine XS.icmpNo X4.here hx rfl (hb hby d16_19) rfl (tlt hloc0).2.2.2 ?_
    refine XS.iloadN X4.here hx rfl (hb hby d16_22) rfl ?_
    refine XS.sipush X4.here hx rfl (hb hby d16_23) ?_
    refine XS.icmpNo X4.here hx rfl (hb hby d16_26) rfl (tlt hhic0).2.1 ?_
    refine XS.iinc X4.here hx rfl (hb hby d16_29) rfl (l' := #[rv st_, iv 1, iv c0, .unset]) rfl ?_
    refine XS.goto X4.here hx rfl (pc0 := 32) (pc' := 57) rfl (hb hby d16_32) (by decide) (by decide) ?_
    refine XS.goto X4.here hx rfl (pc0 := 57) (pc' := 2) rfl (hb hby d16_57) (by decide) (by decide) ?_
    show Steps _ _ _ (State.setTop _ (mkF m 2 #[rv st_, iv 1, iv c0, .unset] [])) _
    refine XS.iloadN X4.here hx rfl (hb hby d16_2) rfl ?_
    refine XS.aloadN X4.here hx rfl (hb hby d16_3) rfl rfl ?_
    refine st7.trans ?_
    refine XS.icmpYes X7.here hx rfl (pc0 := 7) (pc' := 60) rfl (hb hby d16_7) rfl (flt (by decide : ¬ ((1 : Int32) < 1))).2.1 (by decide) (by decide) ?_
    refine XS.iconst X7.here hx rfl (hb hby d16_60) ?_
    show Steps _ _ _ (State.setTop _ (mkF m 61 #[rv st_, iv 1, iv c0, .unset] [(.int (-1 : Int32))])) _
    exact retI X7 hx Bd.returns (hb hby d16_61) hr
  · show Q_ff_1 Z _ _ _ _ _ h0 n0 _ T7.heap _
    rw [K7q]
    exact ⟨rfl, N0, rfl⟩
theorem ef_ff_2 (m : MethodId) (x0 : Addr) : entryFrame m #[(.ref x0)] 4 = mkF m 0 #[rv x0, .unset, .unset, .unset] [] := by first | (simp [entryFrame, mkF, argsToLocals, Value.category]; done) | rfl
def Q_ff_2 (Z : State) (st_ sv_ : Addr) (c0 c1 cs : Int32) (fm : Value) (h0 : Heap) (n0 : Nat) (v : Option Value) (h : Heap) (L : List Loc) : Prop := v = some (.int (-1 : Int32)) ∧ Fr n0 L ∧ h = h0
set_option maxRecDepth 65536 in
set_option maxHeartbeats 40000000 in
theorem ff_2 (l : Launch) (Z : State) (a0 : Array Value) (hw : ∀ d ∈ tables_1, d.before a0 Z = true) (ws : List Jvm.Cond) (st_ sv_ : Addr) (c0 c1 cs : Int32) (fm : Value) (h0 : Heap) (n0 : Nat) (Z0 : n0 ≤ h0.size) (pf_O : Old Z n0 h0) (pS_COMPAC : Sta Z Z.heap "java/lang/String" "COMPACT_STRINGS" "Z" (.int cs)) (hcs : ¬ (cs = 0)) (pS_SIOOBE : Sta Z Z.heap "jdk/internal/util/Preconditions" "SIOOBE_FORMATTER" "Ljava/util/function/BiFunction;" fm) (rfm : fm.isRef = true) (pf_E_st_ : Exa Z h0 st_ "java/lang/String") (pf_F_st__value : Fld Z h0 st_ "java/lang/String" "value" "[B" (.ref sv_)) (pf_F_st__coder : Fld Z h0 st_ "java/lang/String" "coder" "B" (.int 0)) (pf_A_sv_ : Av Z h0 sv_ .byte (2 : Int32) (own_vs [c0, c1]) (.int 0)) (hrA : ∀ c ∈ ([c0, c1] : List Int32), ¬ c < 0 ∧ ¬ (255 : Int32) < c) (hloc0 : (32 : Int32) < c0) (hloc1 : (32 : Int32) < c1) (hhic0 : c0 < 128) (hhic1 : c1 < 128) :
    MetFree l MN16 (head1 (Jvm.Cond.code MN16 prog_20_method_9_code 4 (some .int) :: ws) (Room.mk 4 0 0 53)) (fun a U => a = #[(.ref st_)] ∧ Z.Warmed39 U.vm ∧ U.heap = h0) (fun _ _ _ _ _ => True) (fun _ U o U' => ∃ v L, o = .returned v ∧ Q_ff_2 Z st_ sv_ c0 c1 cs fm h0 n0 v U'.heap L ∧ FrameEnd U o U' L (Room.mk 4 0 0 53).cells (Room.mk 4 0 0 53).slots) := by
  refine MetFree.of_bodySF (plainFor_of_name pn_com_example_arbiter_arbiter_Name) hisR ?_
  intro p e s m args below meth c s₁ Bd hml0 hP hK
  obtain ⟨rfl, hZ, hh⟩ := hP
  have hx := Bd.exec
  have hby := Bd.bytes
  have hml : c.maxLocals = 4 := hml0
  have hown : s.vm.findClass "com/example/arbiter/arbiter/Name" = some m.cls := findClass_of_methodNamed Bd.named
  have hnm := (name_of_methodNamed Bd.named Bd.method).1
  have X0 : Stand p l e (Room.mk 4 0 0 53) s m #[(.ref st_)] below meth c s₁ [] 0 0 := Stand.of_body Bd
  have e0 : s₁.heap = h0 := by rw [← hh, Bd.state]; rfl
  have N0 := Fr.nil n0
  have pre0 : ∀ t, Steps p.tables e below (s₁.setTop (mkF m 0 #[rv st_, .unset, .unset, .unset] [])) t → Steps p.tables e below (s₁.setTop (entryFrame m #[(.ref st_)] 4)) t := fun t k => castTop (ef_ff_2 m st_) k
  have wo17 := hw _ (own_m 17 rfl)
  have wo49 := hw _ (own_m 49 rfl)
  have wo50 := hw _ (own_m 50 rfl)
  have wo51 := hw _ (own_m 51 rfl)
  have wo52 := hw _ (own_m 52 rfl)
  have wo80 := hw _ (own_m 80 rfl)
  have wo81 := hw _ (own_m 81 rfl)
  have wo82 := hw _ (own_m 82 rfl)
  have wo83 := hw _ (own_m 83 rfl)
  obtain ⟨kv2, hv3⟩ := id pf_A_sv_
  have hws1 : ∀ d ∈ StrChars.Road.wordsLen, d.before a0 Z = true := fun d hd => hw d ((by decide +kernel : ∀ d ∈ StrChars.Road.wordsLen, d ∈ tables_1) d hd)
  obtain ⟨cq1, kq1, q1a, q1b, q1c⟩ := isOf hZ e0 pf_E_st_
  obtain ⟨_, _, ⟨T1, L1, k1, n1⟩, -, X1, ⟨Lc1, hQ1, l1, y1, z1⟩, st1⟩ := X0.virtualBack hx (y := MN10) (z := MN10) hown (mvT hZ wo49) (mvT hZ wo50) (notFace_of_selects (args := #[]) (mvT hZ wo52)) (mvT hZ wo52) (mvT hZ wo51) (by decide) (StrChars.Road.lenW (W := 1) hZ hws1 (kI := 4) wo17 pf_E_st_ pf_F_st__value pf_F_st__coder hv3 (own_cod (by rfl) hrA) (own_wid hrA) (pS_COMPAC.ext pf_O.2) hcs (Nat.le_of_ble_eq_true rfl) (by decide) (by decide)) q1a q1c (g := (mkF m 4 #[rv st_, iv 0, .unset, .unset] [(.ref st_), (.int 0)])) rfl (by rw [hml]; rfl) (Steps.refl _) (argsL := []) (rest := [(.int 0)]) (lenOf pd_1 rfl) rfl (by show 2 * 0 + _ ≤ _; exact Nat.le_of_eq rfl) (hb hby d16_4) (fun _ _ => ⟨rfl, e0, (by decide : 0 + 0 ≤ _), (by decide : 0 + 0 ≤ _)⟩)
  dsimp only [Pt.U, Pt.locs, Pt.cells, Pt.slots] at X1 l1 y1 z1 st1 hQ1
  rw [l1, y1, z1] at X1
  obtain ⟨rfl, hl1, K1q⟩ := hQ1
  rw [hl1, List.append_nil] at X1
  obtain ⟨kv5, hv6⟩ := id pf_A_sv_
  have hws4 : ∀ d ∈ StrChars.Road.wordsChN, d.before a0 Z = true := fun d hd => hw d ((by decide +kernel : ∀ d ∈ StrChars.Road.wordsChN, d ∈ tables_1) d hd)
  obtain ⟨cq4, kq4, q4a, q4b, q4c⟩ := isOf hZ K1q pf_E_st_
  obtain ⟨_, _, ⟨T4, L4, k4, n4⟩, -, X4, ⟨Lc4, hQ4, l4, y4, z4⟩, st4⟩ := X1.virtualBack hx (y := MN17) (z := MN17) hown (mvT hZ wo80) (mvT hZ wo81) (notFace_of_selects (args := #[]) (mvT hZ wo83)) (mvT hZ wo83) (mvT hZ wo82) (by decide) (StrChars.Road.chN (W := 0) hZ hws4 (kI := 4) wo17 (i := 0) pf_E_st_ pf_F_st__value pf_F_st__coder hv6 (own_cod (by rfl) hrA) (own_wid hrA) (pS_COMPAC.ext pf_O.2) hcs (pS_SIOOBE.ext pf_O.2) rfm (Nat.le_of_ble_eq_true rfl) (Nat.le_of_ble_eq_true rfl) rfl (by decide) (by decide)) q4a q4c (g := (mkF m 12 #[rv st_, iv 0, .unset, .unset] [(.int 0), (.ref st_)])) rfl (by rw [hml]; rfl) (Steps.refl _) (argsL := [(.int 0)]) (rest := []) (lenOf pd_8 rfl) rfl (by show 2 * 0 + _ ≤ _; exact Nat.le_of_eq rfl) (hb hby d16_12) (fun _ _ => ⟨rfl, K1q, (by decide : 0 + 0 ≤ _), (by decide : 0 + 0 ≤ _)⟩)
  dsimp only [Pt.U, Pt.locs, Pt.cells, Pt.slots] at X4 l4 y4 z4 st4 hQ4
  rw [l4, y4, z4] at X4
  obtain ⟨rfl, hl4, K4q⟩ := hQ4
  rw [hl4, List.append_nil] at X4
  obtain ⟨kv8, hv9⟩ := id pf_A_sv_
  have hws7 : ∀ d ∈ StrChars.Road.wordsLen, d.before a0 Z = true := fun d hd => hw d ((by decide +kernel : ∀ d ∈ StrChars.Road.wordsLen, d ∈ tables_1) d hd)
  obtain ⟨cq7, kq7, q7a, q7b, q7c⟩ := isOf hZ K4q pf_E_st_
  obtain ⟨_, _, ⟨T7, L7, k7, n7⟩, -, X7, ⟨Lc7, hQ7, l7, y7, z7⟩, st7⟩ := X4.virtualBack hx (y := MN10) (z := MN10) hown (mvT hZ wo49) (mvT hZ wo50) (notFace_of_selects (args := #[]) (mvT hZ wo52)) (mvT hZ wo52) (mvT hZ wo51) (by decide) (StrChars.Road.lenW (W := 1) hZ hws7 (kI := 4) wo17 pf_E_st_ pf_F_st__value pf_F_st__coder hv9 (own_cod (by rfl) hrA) (own_wid hrA) (pS_COMPAC.ext pf_O.2) hcs (Nat.le_of_ble_eq_true rfl) (by decide) (by decide)) q7a q7c (g := (mkF m 4 #[rv st_, iv 1, iv c0, .unset] [(.ref st_), (.int 1)])) rfl (by rw [hml]; rfl) (Steps.refl _) (argsL := []) (rest := [(.int 1)]) (lenOf pd_1 rfl) rfl (by show 2 * 0 + _ ≤ _; exact Nat.le_of_eq rfl) (hb hby d16_4) (fun _ _ => ⟨rfl, K4q, (by decide : 0 + 0 ≤ _), (by decide : 0 + 0 ≤ _)⟩)
  dsimp only [Pt.U, Pt.locs, Pt.cells, Pt.slots] at X7 l7 y7 z7 st7 hQ7
  rw [l7, y7, z7] at X7
  obtain ⟨rfl, hl7, K7q⟩ := hQ7
  rw [hl7, List.append_nil] at X7
  obtain ⟨kv11, hv12⟩ := id pf_A_sv_
  have hws10 : ∀ d ∈ StrChars.Road.wordsChN, d.before a0 Z = true := fun d hd => hw d ((by decide +kernel : ∀ d ∈ StrChars.Road.wordsChN, d ∈ tables_1) d hd)
  obtain ⟨cq10, kq10, q10a, q10b, q10c⟩ := isOf hZ K7q pf_E_st_
  obtain ⟨_, _, ⟨T10, L10, k10, n10⟩, -, X10, ⟨Lc10, hQ10, l10, y10, z10⟩, st10⟩ := X7.virtualBack hx (y := MN17) (z := MN17) hown (mvT hZ wo80) (mvT hZ wo81) (notFace_of_selects (args := #[]) (mvT hZ wo83)) (mvT hZ wo83) (mvT hZ wo82) (by decide) (StrChars.Road.chN (W := 0) hZ hws10 (kI := 4) wo17 (i := 1) pf_E_st_ pf_F_st__value pf_F_st__coder hv12 (own_cod (by rfl) hrA) (own_wid hrA) (pS_COMPAC.ext pf_O.2) hcs (pS_SIOOBE.ext pf_O.2) rfm (Nat.le_of_ble_eq_true rfl) (Nat.le_of_ble_eq_true rfl) rfl (by decide) (by decide)) q10a q10c (g := (mkF m 12 #[rv st_, iv 1, iv c0, .unset] [(.int 1), (.ref st_)])) rfl (by rw [hml]; rfl) (Steps.refl _) (argsL := [(.int 1)]) (rest := []) (lenOf pd_8 rfl) rfl (by show 2 * 0 + _ ≤ _; exact Nat.le_of_eq rfl) (hb hby d16_12) (fun _ _ => ⟨rfl, K7q, (by decide : 0 + 0 ≤ _), (by decide : 0 + 0 ≤ _)⟩)
  dsimp only [Pt.U, Pt.locs, Pt.cells, Pt.slots] at X10 l10 y10 z10 st10 hQ10
  rw [l10, y10, z10] at X10
  obtain ⟨rfl, hl10, K10q⟩ := hQ10
  rw [hl10, List.append_nil] at X10
  obtain ⟨kv14, hv15⟩ := id pf_A_sv_
  have hws13 : ∀ d ∈ StrChars.Road.wordsLen, d.before a0 Z = true := fun d hd => hw d ((by decide +kernel : ∀ d ∈ StrChars.Road.wordsLen, d ∈ tables_1) d hd)
  obtain ⟨cq13, kq13, q13a, q13b, q13c⟩ := isOf hZ K10q pf_E_st_
  obtain ⟨_, _, ⟨T13, L13, k13, n13⟩, -, X13, ⟨Lc13, hQ13, l13, y13, z13⟩, st13⟩ := X10.virtualBack hx (y := MN10) (z := MN10) hown (mvT hZ wo49) (mvT hZ wo50) (notFace_of_selects (args := #[]) (mvT hZ wo52)) (mvT hZ wo52) (mvT hZ wo51) (by decide) (StrChars.Road.lenW (W := 1) hZ hws13 (kI := 4) wo17 pf_E_st_ pf_F_st__value pf_F_st__coder hv15 (own_cod (by rfl) hrA) (own_wid hrA) (pS_COMPAC.ext pf_O.2) hcs (Nat.le_of_ble_eq_true rfl) (by decide) (by decide)) q13a q13c (g := (mkF m 4 #[rv st_, iv 2, iv c1, .unset] [(.ref st_), (.int 2)])) rfl (by rw [hml]; rfl) (Steps.refl _) (argsL := []) (rest := [(.int 2)]) (lenOf pd_1 rfl) rfl (by show 2 * 0 + _ ≤ _; exact Nat.le_of_eq rfl) (hb hby d16_4) (fun _ _ => ⟨rfl, K10q, (by decide : 0 + 0 ≤ _), (by decide : 0 + 0 ≤ _)⟩)
  dsimp only [Pt.U, Pt.locs, Pt.cells, Pt.slots] at X13 l13 y13 z13 st13 hQ13
  rw [l13, y13, z13] at X13
  obtain ⟨rfl, hl13, K13q⟩ := hQ13
  rw [hl13, List.append_nil] at X13
  obtain ⟨fs, hr, hrun, hended, hW, hsame⟩ := X13.leave (v := some (.int (-1 : Int32))) (fun h => by rw [Bd.returns] at h; cases h)
  refine ⟨_, _, pre0 _ ?_, hrun, hended, _, _, rfl, ?_, ⟨_, rfl⟩, hW, hsame.mono (by decide) (by decide)⟩
  · show Steps _ _ _ (State.setTop _ (mkF m 0 #[rv st_, .unset, .unset, .unset] [])) _
    refine XS.iconst X0.here hx rfl (hb hby d16_0) ?_
    show Steps _ _ _ (State.setTop _ (mkF m 1 #[rv st_, .unset, .unset, .unset] [(.int 0)])) _
    refine XS.istoreN X0.here hx rfl (hb hby d16_1) rfl (l' := #[rv st_, iv 0, .unset, .unset]) rfl ?_
    refine XS.iloadN X0.here hx rfl (hb hby d16_2) rfl ?_
    refine XS.aloadN X0.here hx rfl (hb hby d16_3) rfl rfl ?_
    refine st1.trans ?_
    refine XS.icmpNo X1.here hx rfl (hb hby d16_7) rfl (tlt (by decide : (0 : Int32) < 2)).2.1 ?_
    refine XS.aloadN X1.here hx rfl (hb hby d16_10) rfl rfl ?_
    refine XS.iloadN X1.here hx rfl (hb hby d16_11) rfl ?_
    refine st4.trans ?_
    refine XS.istoreN X4.here hx rfl (hb hby d16_15) rfl (l' := #[rv st_, iv 0, iv c0, .unset]) rfl ?_
    show Steps _ _ _ (State.setTop _ (mkF m 16 #[rv st_, iv 0, iv c0, .unset] [])) _
    refine XS.iloadN X4.here hx rfl (hb hby d16_16) rfl ?_
    refine XS.bipush X4.here hx rfl (hb hby d16_17) ?_
    refine XS.icmpNo X4.here hx rfl (hb hby d16_19) rfl (tlt hloc0).2.2.2 ?_
    refine XS.iloadN X4.here hx rfl (hb hby d16_22) rfl ?_
    refine XS.sipush X4.here hx rfl (hb hby d16_23) ?_
    refine XS.icmpNo X4.here hx rfl (hb hby d16_26) rfl (tlt hhic0).2.1 ?_
    refine XS.iinc X4.here hx rfl (hb hby d16_29) rfl (l' := #[rv st_, iv 1, iv c0, .unset]) rfl ?_
    refine XS.goto X4.here hx rfl (pc0 := 32) (pc' := 57) rfl (hb hby d16_32) (by decide) (by decide) ?_
    refine XS.goto X4.here hx rfl (pc0 := 57) (pc' := 2) rfl (hb hby d16_57) (by decide) (by decide) ?_
    show Steps _ _ _ (State.setTop _ (mkF m 2 #[rv st_, iv 1, iv c0, .unset] [])) _
    refine XS.iloadN X4.here hx rfl (hb hby d16_2) rfl ?_
    refine XS.aloadN X4.here hx rfl (hb hby d16_3) rfl rfl ?_
    refine st7.trans ?_
    refine XS.icmpNo X7.here hx rfl (hb hby d16_7) rfl (tlt (by decide : (1 : Int32) < 2)).2.1 ?_
    refine XS.aloadN X7.here hx rfl (hb hby d16_10) rfl rfl ?_
    refine XS.iloadN X7.here hx rfl (hb hby d16_11) rfl ?_
    refine st10.trans ?_
    refine XS.istoreN X10.here hx rfl (hb hby d16_15) rfl (l' := #[rv st_, iv 1, iv c1, .unset]) rfl ?_
    refine XS.iloadN X10.here hx rfl (hb hby d16_16) rfl ?_
    show Steps _ _ _ (State.setTop _ (mkF m 17 #[rv st_, iv 1, iv c1, .unset] [(.int c1)])) _
    refine XS.bipush X10.here hx rfl (hb hby d16_17) ?_
    refine XS.icmpNo X10.here hx rfl (hb hby d16_19) rfl (tlt hloc1).2.2.2 ?_
    refine XS.iloadN X10.here hx rfl (hb hby d16_22) rfl ?_
    refine XS.sipush X10.here hx rfl (hb hby d16_23) ?_
    refine XS.icmpNo X10.here hx rfl (hb hby d16_26) rfl (tlt hhic1).2.1 ?_
    refine XS.iinc X10.here hx rfl (hb hby d16_29) rfl (l' := #[rv st_, iv 2, iv c1, .unset]) rfl ?_
    refine XS.goto X10.here hx rfl (pc0 := 32) (pc' := 57) rfl (hb hby d16_32) (by decide) (by decide) ?_
    refine XS.goto X10.here hx rfl (pc0 := 57) (pc' := 2) rfl (hb hby d16_57) (by decide) (by decide) ?_
    refine XS.iloadN X10.here hx rfl (hb hby d16_2) rfl ?_
    show Steps _ _ _ (State.setTop _ (mkF m 3 #[rv st_, iv 2, iv c1, .unset] [(.int 2)])) _
    refine XS.aloadN X10.here hx rfl (hb hby d16_3) rfl rfl ?_
    refine st13.trans ?_
    refine XS.icmpYes X13.here hx rfl (pc0 := 7) (pc' := 60) rfl (hb hby d16_7) rfl (flt (by decide : ¬ ((2 : Int32) < 2))).2.1 (by decide) (by decide) ?_
    refine XS.iconst X13.here hx rfl (hb hby d16_60) ?_
    show Steps _ _ _ (State.setTop _ (mkF m 61 #[rv st_, iv 2, iv c1, .unset] [(.int (-1 : Int32))])) _
    exact retI X13 hx Bd.returns (hb hby d16_61) hr
  · show Q_ff_2 Z _ _ _ _ _ _ h0 n0 _ T13.heap _
    rw [K13q]
    exact ⟨rfl, N0, rfl⟩
theorem d21_0 : decode prog_20_method_1_code 0 = .ok (.aload_n 0, 1) := by decide +kernel
theorem d21_1 : decode prog_20_method_1_code 1 = .ok (.invokespecial 1, 3) := by decide +kernel
theorem d21_4 : decode prog_20_method_1_code 4 = .ok (.aload_n 0, 1) := by decide +kernel
theorem d21_5 : decode prog_20_method_1_code 5 = .ok (.aload_n 1, 1) := by decide +kernel
theorem d21_6 : decode prog_20_method_1_code 6 = .ok (.putfield 7, 3) := by decide +kernel
theorem d21_9 : decode prog_20_method_1_code 9 = .ok (.return_, 1) := by decide +kernel
theorem ef_rm21 (m : MethodId) (x0 x1 : Addr) : entryFrame m #[(.ref x0), (.ref x1)] 2 = mkF m 0 #[rv x0, rv x1] [] := by first | (simp [entryFrame, mkF, argsToLocals, Value.category]; done) | rfl
def Q_rm21 (Z : State) (a21_0 tx : Addr) (h0 : Heap) (n0 : Nat) (v : Option Value) (h : Heap) (L : List Loc) : Prop := v = none ∧ Fr n0 L ∧ Keep h0 h [a21_0] ∧ (Fld Z h a21_0 "com/example/arbiter/arbiter/Name" "text" "Ljava/lang/String;" (.ref tx))
set_option maxRecDepth 65536 in
set_option maxHeartbeats 40000000 in
theorem rm21 (l : Launch) (Z : State) (a0 : Array Value) (hw : ∀ d ∈ tables_1, d.before a0 Z = true) (ws : List Jvm.Cond) (a21_0 tx : Addr) (h0 : Heap) (n0 : Nat) (Z0 : n0 ≤ h0.size) (pf_E_a21_0 : Exa Z h0 a21_0 "com/example/arbiter/arbiter/Name") (pf_G_a21_0 : n0 ≤ a21_0) (pf_F_a21_0_text : Fld Z h0 a21_0 "com/example/arbiter/arbiter/Name" "text" "Ljava/lang/String;" .null) :
    MetFree l MN21 (head1 (Jvm.Cond.code MN21 prog_20_method_1_code 2 none :: ws) (Room.mk 1 0 0 12)) (fun a U => a = #[(.ref a21_0), (.ref tx)] ∧ Z.Warmed39 U.vm ∧ U.heap = h0) (fun _ _ _ _ _ => True) (fun _ U o U' => ∃ v L, o = .returned v ∧ Q_rm21 Z a21_0 tx h0 n0 v U'.heap L ∧ FrameEnd U o U' L (Room.mk 1 0 0 12).cells (Room.mk 1 0 0 12).slots) := by
  refine MetFree.of_bodySF (plainFor_of_name pn_com_example_arbiter_arbiter_Name) hisR ?_
  intro p e s m args below meth c s₁ Bd hml0 hP hK
  obtain ⟨rfl, hZ, hh⟩ := hP
  have hx := Bd.exec
  have hby := Bd.bytes
  have hml : c.maxLocals = 2 := hml0
  have hown : s.vm.findClass "com/example/arbiter/arbiter/Name" = some m.cls := findClass_of_methodNamed Bd.named
  have hnm := (name_of_methodNamed Bd.named Bd.method).1
  have X0 : Stand p l e (Room.mk 1 0 0 12) s m #[(.ref a21_0), (.ref tx)] below meth c s₁ [] 0 0 := Stand.of_body Bd
  have e0 : s₁.heap = h0 := by rw [← hh, Bd.state]; rfl
  have N0 := Fr.nil n0
  have pre0 : ∀ t, Steps p.tables e below (s₁.setTop (mkF m 0 #[rv a21_0, rv tx] [])) t → Steps p.tables e below (s₁.setTop (entryFrame m #[(.ref a21_0), (.ref tx)] 2)) t := fun t k => castTop (ef_rm21 m a21_0 tx) k
  have wo27 := hw _ (own_m 27 rfl)
  have wo28 := hw _ (own_m 28 rfl)
  have wo96 := hw _ (own_m 96 rfl)
  have wo100 := hw _ (own_m 100 rfl)
  have wo101 := hw _ (own_m 101 rfl)
  have wo102 := hw _ (own_m 102 rfl)
  obtain ⟨T1, X1, e1, st1⟩ := initO X0 hx hZ hown wo100 wo27 wo28 e0 (g := (mkF m 1 #[rv a21_0, rv tx] [(.ref a21_0)])) rfl (by rw [hml]; rfl) rfl (hb hby d21_1) (by decide) (W := 0) (by show 2 * 0 + _ ≤ _; exact Nat.le_of_eq rfl) (by decide)
  obtain ⟨T2, h2, X2, e2, W2, st2⟩ := putF X1 hx hZ hown (host := "") (Or.inl wo101) Via.refl e1 pf_F_a21_0_text pf_E_a21_0 (Or.inr ⟨wo102, rfl, hnm⟩) wo96 (ty := (.object "java/lang/String")) (by decide) rfl rfl (g := (mkF m 6 #[rv a21_0, rv tx] [(.ref tx), (.ref a21_0)])) rfl rfl (hb hby d21_6)
  have K3 : Keep h0 h2 [a21_0] := (Keep.refl h0 [a21_0]).wr W2 (Or.inl (own_m 0 rfl))
  have f4 : Fld Z h2 a21_0 "com/example/arbiter/arbiter/Name" "text" "Ljava/lang/String;" (.ref tx) := pf_F_a21_0_text.same W2
  have N5 := Fr.snoc X2 N0 pf_G_a21_0
  obtain ⟨fs, hr, hrun, hended, hW, hsame⟩ := X2.leave (v := none) (fun _ => rfl)
  refine ⟨_, _, pre0 _ ?_, hrun, hended, _, _, rfl, ?_, ⟨_, rfl⟩, hW, hsame.mono (by decide) (by decide)⟩
  · show Steps _ _ _ (State.setTop _ (mkF m 0 #[rv a21_0, rv tx] [])) _
    refine XS.aloadN X0.here hx rfl (hb hby d21_0) rfl rfl ?_
    show Steps _ _ _ (State.setTop _ (mkF m 1 #[rv a21_0, rv tx] [(.ref a21_0)])) _
    refine st1 _ ?_
    refine XS.aloadN X1.here hx rfl (hb hby d21_4) rfl rfl ?_
    refine XS.aloadN X1.here hx rfl (hb hby d21_5) rfl rfl ?_
    refine st2 _ ?_
    show Steps _ _ _ (State.setTop _ (mkF m 9 #[rv a21_0, rv tx] [])) _
    exact X2.returnOut hx Bd.returns (hb hby d21_9) hr
  · show Q_rm21 Z _ _ h0 n0 _ T2.heap _
    rw [e2]
    exact ⟨rfl, N5, (K3), f4⟩
theorem d7_0 : decode prog_20_method_2_code 0 = .ok (.aload_n 0, 1) := by decide +kernel
theorem d7_1 : decode prog_20_method_2_code 1 = .ok (.ldc 13, 2) := by decide +kernel
theorem pd_24 : parseMethodDescriptor "(Ljava/lang/Object;Ljava/lang/String;)Ljava/lang/Object;" = some ⟨[(.object "java/lang/Object"), (.object "java/lang/String")], some (.object "java/lang/Object")⟩ := by decide +kernel
theorem d7_3 : decode prog_20_method_2_code 3 = .ok (.invokestatic 14, 3) := by decide +kernel
theorem d7_6 : decode prog_20_method_2_code 6 = .ok (.pop, 1) := by decide +kernel
theorem d7_7 : decode prog_20_method_2_code 7 = .ok (.aload_n 0, 1) := by decide +kernel
theorem d7_8 : decode prog_20_method_2_code 8 = .ok (.invokevirtual 20, 3) := by decide +kernel
theorem d7_11 : decode prog_20_method_2_code 11 = .ok (.ifCond .eq 13, 3) := by decide +kernel
theorem d7_24 : decode prog_20_method_2_code 24 = .ok (.aload_n 0, 1) := by decide +kernel
theorem d7_25 : decode prog_20_method_2_code 25 = .ok (.iconst 0, 1) := by decide +kernel
theorem d7_26 : decode prog_20_method_2_code 26 = .ok (.aload_n 0, 1) := by decide +kernel
theorem d7_27 : decode prog_20_method_2_code 27 = .ok (.invokevirtual 33, 3) := by decide +kernel
theorem pd_11 : parseMethodDescriptor "(II)I" = some ⟨[.int, .int], some .int⟩ := by decide +kernel
theorem d7_30 : decode prog_20_method_2_code 30 = .ok (.invokevirtual 37, 3) := by decide +kernel
theorem d7_33 : decode prog_20_method_2_code 33 = .ok (.istore_n 1, 1) := by decide +kernel
theorem d7_34 : decode prog_20_method_2_code 34 = .ok (.iload_n 1, 1) := by decide +kernel
theorem d7_35 : decode prog_20_method_2_code 35 = .ok (.sipush 256, 3) := by decide +kernel
theorem d7_38 : decode prog_20_method_2_code 38 = .ok (.if_icmp .le 21, 3) := by decide +kernel
theorem d7_59 : decode prog_20_method_2_code 59 = .ok (.aload_n 0, 1) := by decide +kernel
theorem pd_25 : parseMethodDescriptor "(Ljava/lang/String;)I" = some ⟨[(.object "java/lang/String")], some .int⟩ := by decide +kernel
theorem d7_60 : decode prog_20_method_2_code 60 = .ok (.invokestatic 49, 3) := by decide +kernel
theorem d7_63 : decode prog_20_method_2_code 63 = .ok (.istore_n 2, 1) := by decide +kernel
theorem d7_64 : decode prog_20_method_2_code 64 = .ok (.iload_n 2, 1) := by decide +kernel
theorem d7_65 : decode prog_20_method_2_code 65 = .ok (.ifCond .lt 52, 3) := by decide +kernel
theorem d7_117 : decode prog_20_method_2_code 117 = .ok (.new 8, 3) := by decide +kernel
theorem d7_120 : decode prog_20_method_2_code 120 = .ok (.dup, 1) := by decide +kernel
theorem d7_121 : decode prog_20_method_2_code 121 = .ok (.aload_n 0, 1) := by decide +kernel
theorem pd_27 : parseMethodDescriptor "(Ljava/lang/String;)V" = some ⟨[(.object "java/lang/String")], none⟩ := by decide +kernel
theorem d7_122 : decode prog_20_method_2_code 122 = .ok (.invokespecial 73, 3) := by decide +kernel
theorem d7_125 : decode prog_20_method_2_code 125 = .ok (.areturn, 1) := by decide +kernel
theorem ef_of_1 (m : MethodId) (x0 : Addr) : entryFrame m #[(.ref x0)] 5 = mkF m 0 #[rv x0, .unset, .unset, .unset, .unset] [] := by first | (simp [entryFrame, mkF, argsToLocals, Value.category]; done) | rfl
def Q_of_1 (Z : State) (st_ sv_ : Addr) (c0 cs : Int32) (fm : Value) (h0 : Heap) (n0 : Nat) (v : Option Value) (h : Heap) (L : List Loc) : Prop := ∃ (r : Addr), v = some (.ref r) ∧ Fr n0 L ∧ Keep h0 h [] ∧ (h0.size ≤ r) ∧ (Exa Z h r "com/example/arbiter/arbiter/Name") ∧ (Fld Z h r "com/example/arbiter/arbiter/Name" "text" "Ljava/lang/String;" (.ref st_))
set_option maxRecDepth 65536 in
set_option maxHeartbeats 40000000 in
theorem of_1 (l : Launch) (Z : State) (a0 : Array Value) (hw : ∀ d ∈ tables_1, d.before a0 Z = true) (ws : List Jvm.Cond) (st_ sv_ : Addr) (c0 cs : Int32) (fm : Value) (h0 : Heap) (n0 : Nat) (Z0 : n0 ≤ h0.size) (pf_O : Old Z n0 h0) (pS_COMPAC : Sta Z Z.heap "java/lang/String" "COMPACT_STRINGS" "Z" (.int cs)) (hcs : ¬ (cs = 0)) (pS_SIOOBE : Sta Z Z.heap "jdk/internal/util/Preconditions" "SIOOBE_FORMATTER" "Ljava/util/function/BiFunction;" fm) (rfm : fm.isRef = true) (pf_E_st_ : Exa Z h0 st_ "java/lang/String") (pf_F_st__value : Fld Z h0 st_ "java/lang/String" "value" "[B" (.ref sv_)) (pf_F_st__coder : Fld Z h0 st_ "java/lang/String" "coder" "B" (.int 0)) (pf_A_sv_ : Av Z h0 sv_ .byte (1 : Int32) (own_vs [c0]) (.int 0)) (hrA : ∀ c ∈ ([c0] : List Int32), ¬ c < 0 ∧ ¬ (255 : Int32) < c) (hloc0 : (32 : Int32) < c0) (hhic0 : c0 < 128) :
    MetFree l MN7 (head1 (Jvm.Cond.code MN7 prog_20_method_2_code 5 (some (.object "com/example/arbiter/arbiter/Name")) :: ws) (Room.mk 5 3 21 68)) (fun a U => a = #[(.ref st_)] ∧ Z.Warmed39 U.vm ∧ U.heap = h0) (fun _ _ _ _ _ => True) (fun _ U o U' => ∃ v L, o = .returned v ∧ Q_of_1 Z st_ sv_ c0 cs fm h0 n0 v U'.heap L ∧ ReturnedEndW U o U' L (Room.mk 5 3 21 68).cells (Room.mk 5 3 21 68).slots) := by
  refine MetFree.of_bodySF (plainFor_of_name pn_com_example_arbiter_arbiter_Name) hisR ?_
  intro p e s m args below meth c s₁ Bd hml0 hP hK
  obtain ⟨rfl, hZ, hh⟩ := hP
  have hx := Bd.exec
  have hby := Bd.bytes
  have hml : c.maxLocals = 5 := hml0
  have hown : s.vm.findClass "com/example/arbiter/arbiter/Name" = some m.cls := findClass_of_methodNamed Bd.named
  have hnm := (name_of_methodNamed Bd.named Bd.method).1
  have X0 : Stand p l e (Room.mk 5 3 21 68) s m #[(.ref st_)] below meth c s₁ [] 0 0 := Stand.of_body Bd
  have e0 : s₁.heap = h0 := by rw [← hh, Bd.state]; rfl
  have N0 := Fr.nil n0
  have pre0 : ∀ t, Steps p.tables e below (s₁.setTop (mkF m 0 #[rv st_, .unset, .unset, .unset, .unset] [])) t → Steps p.tables e below (s₁.setTop (entryFrame m #[(.ref st_)] 5)) t := fun t k => castTop (ef_of_1 m st_) k
  have wo9 := hw _ (own_m 9 rfl)
  have wo17 := hw _ (own_m 17 rfl)
  have wo35 := hw _ (own_m 35 rfl)
  have wo37 := hw _ (own_m 37 rfl)
  have wo40 := hw _ (own_m 40 rfl)
  have wo41 := hw _ (own_m 41 rfl)
  have wo42 := hw _ (own_m 42 rfl)
  have wo43 := hw _ (own_m 43 rfl)
  have wo44 := hw _ (own_m 44 rfl)
  have wo45 := hw _ (own_m 45 rfl)
  have wo46 := hw _ (own_m 46 rfl)
  have wo47 := hw _ (own_m 47 rfl)
  have wo49 := hw _ (own_m 49 rfl)
  have wo50 := hw _ (own_m 50 rfl)
  have wo51 := hw _ (own_m 51 rfl)
  have wo52 := hw _ (own_m 52 rfl)
  have wo59 := hw _ (own_m 59 rfl)
  have wo60 := hw _ (own_m 60 rfl)
  have wo61 := hw _ (own_m 61 rfl)
  have wo62 := hw _ (own_m 62 rfl)
  have wo63 := hw _ (own_m 63 rfl)
  have wo77 := hw _ (own_m 77 rfl)
  have wo78 := hw _ (own_m 78 rfl)
  have wo79 := hw _ (own_m 79 rfl)
  have wo95 := hw _ (own_m 95 rfl)
  have wo96 := hw _ (own_m 96 rfl)
  have wo97 := hw _ (own_m 97 rfl)
  have wo98 := hw _ (own_m 98 rfl)
  have wo99 := hw _ (own_m 99 rfl)
  have wo102 := hw _ (own_m 102 rfl)
  have pre1 : ∀ t, Steps p.tables e below (s₁.setTop (mkF m 1 #[rv st_, .unset, .unset, .unset, .unset] [(.ref st_)])) t → Steps p.tables e below (s₁.setTop (entryFrame m #[(.ref st_)] 5)) t := by
    intro t_ k_
    refine pre0 _ ?_
    show Steps _ _ _ (State.setTop _ (mkF m 0 #[rv st_, .unset, .unset, .unset, .unset] [])) _
    refine XS.aloadN X0.here hx rfl (hb hby d7_0) rfl rfl ?_
    exact k_
  obtain ⟨sa2, T2, h2, k2, X2, e2, E2, S2, K2, hZ, hown, st2⟩ := ldcS (s := s) (vm0 := s.vm) X0 hx hZ hown wo37 (fun d hd => hw d ((by decide +kernel : ∀ d ∈ Bundle.stringAtoms, d ∈ tables_1) d hd)) e0 ((State.WarmedH.refl s).since 0) (Nat.zero_le _) (g := (mkF m 1 #[rv st_, .unset, .unset, .unset, .unset] [(.ref st_)])) rfl (hb hby d7_1) (n := 16) (by decide) (by decide) (by decide) (by decide)
  have K3 : Keep h0 h2 [] := (Keep.refl h0 []).ext E2
  have f5 := (Nat.le_trans Z0 E2.1)
  obtain ⟨_, _, ⟨T4, L4, k4, n4⟩, -, X4, ⟨Lc4, hQ4, l4, y4, z4⟩, st4⟩ := Jvm.LawKit.callS X2 hx (y := MN8) hown (mvT hZ wo40) (mvT hZ wo41) (mvT hZ wo42) (mvT hZ wo43) (by decide) (backOf (W := 0) (rm8 l Z a0 hw [] st_ sa2 h2 n0 f5 ) hZ wo43 wo42 (by decide) (by decide)) (g := (mkF m 3 #[rv st_, .unset, .unset, .unset, .unset] [(.ref sa2), (.ref st_)])) rfl (by rw [hml]; rfl) (argsL := [(.ref st_), (.ref sa2)]) (rest := []) (lenOf pd_24 rfl) rfl (by show 2 * 0 + _ ≤ _; exact Nat.le_of_eq rfl) (hb hby d7_3) (fun _ _ => ⟨rfl, e2, (by decide : 2 + 0 ≤ _), (by decide : 20 + 0 ≤ _)⟩)
  dsimp only [Pt.U, Pt.locs, Pt.cells, Pt.slots] at X4 l4 y4 z4 st4 hQ4
  rw [l4, y4, z4] at X4
  obtain ⟨rfl, N4q, K4q⟩ := hQ4
  have N6 := Fr.app N0 N4q
  have f10 := (pf_A_sv_.ext E2)
  obtain ⟨kv8, hv9⟩ := id f10
  have f11 := (pf_E_st_.ext E2)
  have f12 := (pf_F_st__value.ext E2)
  have f13 := (pf_F_st__coder.ext E2)
  have hws7 : ∀ d ∈ StrChars.Road.wordsEmp, d.before a0 Z = true := fun d hd => hw d ((by decide +kernel : ∀ d ∈ StrChars.Road.wordsEmp, d ∈ tables_1) d hd)
  obtain ⟨cq7, kq7, q7a, q7b, q7c⟩ := isOf hZ K4q f11
  obtain ⟨_, _, ⟨T7, L7, k7, n7⟩, -, X7, ⟨Lc7, hQ7, l7, y7, z7⟩, st7⟩ := X4.virtualBack hx (y := MN9) (z := MN9) hown (mvT hZ wo44) (mvT hZ wo45) (notFace_of_selects (args := #[]) (mvT hZ wo47)) (mvT hZ wo47) (mvT hZ wo46) (by decide) (StrChars.Road.empW (W := 0) hZ hws7 (kI := 4) wo17 f11 f12 f13 hv9 (own_cod (by rfl) hrA) (own_wid hrA) (Nat.le_of_ble_eq_true rfl) (by decide) (by decide)) q7a q7c (g := (mkF m 8 #[rv st_, .unset, .unset, .unset, .unset] [(.ref st_)])) rfl (by rw [hml]; rfl) (Steps.refl _) (argsL := []) (rest := []) (lenOf pd_4 rfl) rfl (by show 2 * 0 + _ ≤ _; exact Nat.le_of_eq rfl) (hb hby d7_8) (fun _ _ => ⟨rfl, K4q, (by decide : 2 + 0 ≤ _), (by decide : 20 + 0 ≤ _)⟩)
  dsimp only [Pt.U, Pt.locs, Pt.cells, Pt.slots] at X7 l7 y7 z7 st7 hQ7
  rw [l7, y7, z7] at X7
  obtain ⟨rfl, hl7, K7q⟩ := hQ7
  rw [hl7, List.append_nil] at X7
  obtain ⟨kv15, hv16⟩ := id f10
  have hws14 : ∀ d ∈ StrChars.Road.wordsLen, d.before a0 Z = true := fun d hd => hw d ((by decide +kernel : ∀ d ∈ StrChars.Road.wordsLen, d ∈ tables_1) d hd)
  have f17 := (pf_O.ext E2)
  obtain ⟨cq14, kq14, q14a, q14b, q14c⟩ := isOf hZ K7q f11
  obtain ⟨_, _, ⟨T14, L14, k14, n14⟩, -, X14, ⟨Lc14, hQ14, l14, y14, z14⟩, st14⟩ := X7.virtualBack hx (y := MN10) (z := MN10) hown (mvT hZ wo49) (mvT hZ wo50) (notFace_of_selects (args := #[]) (mvT hZ wo52)) (mvT hZ wo52) (mvT hZ wo51) (by decide) (StrChars.Road.lenW (W := 2) hZ hws14 (kI := 4) wo17 f11 f12 f13 hv16 (own_cod (by rfl) hrA) (own_wid hrA) (pS_COMPAC.ext f17.2) hcs (Nat.le_of_ble_eq_true rfl) (by decide) (by decide)) q14a q14c (g := (mkF m 27 #[rv st_, .unset, .unset, .unset, .unset] [(.ref st_), (.int 0), (.ref st_)])) rfl (by rw [hml]; rfl) (Steps.refl _) (argsL := []) (rest := [(.int 0), (.ref st_)]) (lenOf pd_1 rfl) rfl (by show 2 * 0 + _ ≤ _; exact Nat.le_of_eq rfl) (hb hby d7_27) (fun _ _ => ⟨rfl, K7q, (by decide : 2 + 0 ≤ _), (by decide : 20 + 0 ≤ _)⟩)
  dsimp only [Pt.U, Pt.locs, Pt.cells, Pt.slots] at X14 l14 y14 z14 st14 hQ14
  rw [l14, y14, z14] at X14
  obtain ⟨rfl, hl14, K14q⟩ := hQ14
  rw [hl14, List.append_nil] at X14
  obtain ⟨cq18, kq18, q18a, q18b, q18c⟩ := isOf hZ K14q f11
  obtain ⟨_, _, ⟨T18, L18, k18, n18⟩, -, X18, ⟨Lc18, hQ18, l18, y18, z18⟩, st18⟩ := X14.virtualBack hx (y := MN12) (z := MN12) hown (mvT hZ wo59) (mvT hZ wo60) (notFace_of_selects (args := #[]) (mvT hZ wo62)) (mvT hZ wo62) (mvT hZ wo61) (by decide) (backOf (W := 0) (cpc_1 l Z a0 hw [] st_ sv_ c0 cs fm h2 n0 f5 f17 pS_COMPAC hcs pS_SIOOBE rfm f11 f12 f13 f10 hrA) hZ wo63 wo9 (by decide) (by decide)) q18a q18c (g := (mkF m 30 #[rv st_, .unset, .unset, .unset, .unset] [(.int 1), (.int 0), (.ref st_)])) rfl (by rw [hml]; rfl) (Steps.refl _) (argsL := [(.int 0), (.int 1)]) (rest := []) (lenOf pd_11 rfl) rfl (by show 2 * 0 + _ ≤ _; exact Nat.le_of_eq rfl) (hb hby d7_30) (fun _ _ => ⟨rfl, K14q, (by decide : 2 + 0 ≤ _), (by decide : 20 + 0 ≤ _)⟩)
  dsimp only [Pt.U, Pt.locs, Pt.cells, Pt.slots] at X18 l18 y18 z18 st18 hQ18
  rw [l18, y18, z18] at X18
  obtain ⟨rfl, N18q, K18q⟩ := hQ18
  have N19 := Fr.app N6 N18q
  obtain ⟨_, _, ⟨T20, L20, k20, n20⟩, -, X20, ⟨Lc20, hQ20, l20, y20, z20⟩, st20⟩ := Jvm.LawKit.callS X18 hx (y := MN16) hown (mvT hZ wo77) (mvT hZ wo78) (mvT hZ wo35) (mvT hZ wo79) (by decide) (backOf (W := 0) (ff_1 l Z a0 hw [] st_ sv_ c0 cs fm h2 n0 f5 f17 pS_COMPAC hcs pS_SIOOBE rfm f11 f12 f13 f10 hrA hloc0 hhic0) hZ wo79 wo35 (by decide) (by decide)) (g := (mkF m 60 #[rv st_, iv 1, .unset, .unset, .unset] [(.ref st_)])) rfl (by rw [hml]; rfl) (argsL := [(.ref st_)]) (rest := []) (lenOf pd_25 rfl) rfl (by show 2 * 0 + _ ≤ _; exact Nat.le_of_eq rfl) (hb hby d7_60) (fun _ _ => ⟨rfl, K18q, (by decide : 2 + 0 ≤ _), (by decide : 20 + 0 ≤ _)⟩)
  dsimp only [Pt.U, Pt.locs, Pt.cells, Pt.slots] at X20 l20 y20 z20 st20 hQ20
  rw [l20, y20, z20] at X20
  obtain ⟨rfl, N20q, K20q⟩ := hQ20
  have N21 := Fr.app N19 N20q
  obtain ⟨T22, h22, X22, e22, E22, A22, D22, -, st22⟩ := newO X20 hx hZ hown wo95 wo96 wo35 K20q (g := (mkF m 117 #[rv st_, iv 1, iv (-1 : Int32), .unset, .unset] [])) rfl (hb hby d7_117) (by decide) (by decide)
  obtain ⟨b22, gg22⟩ : ∃ z, z = h2.size := ⟨_, rfl⟩
  rw [← gg22] at A22 D22 st22
  have ne23 : st_ ≠ b22 := Nat.ne_of_lt (Nat.lt_of_lt_of_le f11.lt (Nat.le_of_eq gg22.symm))
  have ne24 : sv_ ≠ b22 := Nat.ne_of_lt (Nat.lt_of_lt_of_le f10.lt (Nat.le_of_eq gg22.symm))
  have g25 : n0 ≤ b22 := Nat.le_trans f5 (Nat.le_of_eq gg22.symm)
  have bz26 : h0.size ≤ b22 := Nat.le_trans (K3).1 (Nat.le_of_eq gg22.symm)
  have K27 : Keep h0 h22 [] := (K3).ext E22
  have f28 : Fld Z h22 b22 "com/example/arbiter/arbiter/Name" "text" "Ljava/lang/String;" .null := D22 (Or.inr wo102) (ty := (.object "java/lang/String")) (by decide)
  have f30 := (Nat.le_trans f5 E22.1)
  obtain ⟨_, _, ⟨T29, L29, k29, n29⟩, -, X29, ⟨Lc29, hQ29, l29, y29, z29⟩, st29⟩ := X22.specialBack hx (y := MN21) rfl hown (mvT hZ wo97) (mvT hZ wo98) (mvT hZ wo99) (by decide) (backOf (W := 1) (rm21 l Z a0 hw [] b22 st_ h22 n0 f30 A22 g25 f28) hZ wo99 wo35 (by decide) (by decide)) (g := (mkF m 122 #[rv st_, iv 1, iv (-1 : Int32), .unset, .unset] [(.ref st_), (.ref b22), (.ref b22)])) rfl (by rw [hml]; rfl) (Steps.refl _) (a := b22) (argsL := [(.ref st_)]) (rest := [(.ref b22)]) (lenOf pd_27 rfl) rfl (by show 2 * 0 + _ ≤ _; exact Nat.le_of_eq rfl) (hb hby d7_122) (fun _ _ => ⟨rfl, e22, (by decide : 3 + 0 ≤ _), (by decide : 21 + 0 ≤ _)⟩)
  dsimp only [Pt.U, Pt.locs, Pt.cells, Pt.slots] at X29 l29 y29 z29 st29 hQ29
  rw [l29, y29, z29] at X29
  obtain ⟨rfl, N29q, K29q, hq29_0⟩ := hQ29
  have N31 := Fr.app N21 N29q
  have K32 : Keep h0 T29.heap [] := (K27).trans K29q (allS (P := fun x => x ∈ [] ∨ h0.size ≤ x) (Or.inr bz26) all0)
  have f33 := (A22.keep K29q)
  have f34 := (Nat.le_trans (Nat.le_trans K2 E22.1) K29q.1)
  obtain ⟨fs, hr, hrun, hended, -, hW1, hW2, hW3⟩ := X29.leaveW S2 f34 (v := some (.ref b22)) (fun h => by rw [Bd.returns] at h; cases h)
  refine ⟨_, _, pre1 _ ?_, hrun, hended, _, _, rfl, ?_, ⟨_, rfl⟩, hW1, hW2, hW3.mono (by decide) (by decide)⟩
  · show Steps _ _ _ (State.setTop _ (mkF m 1 #[rv st_, .unset, .unset, .unset, .unset] [(.ref st_)])) _
    refine st2 _ ?_
    refine st4 _ ?_
    refine XS.pop X4.here hx rfl (hb hby d7_6) rfl rfl ?_
    refine XS.aloadN X4.here hx rfl (hb hby d7_7) rfl rfl ?_
    refine st7.trans ?_
    refine XS.ifYes X7.here hx rfl (pc0 := 11) (pc' := 24) rfl (hb hby d7_11) rfl ((if0 _ _).trans (teq (by decide : (0 : Int32) = 0)).1) (by decide) (by decide) ?_
    refine XS.aloadN X7.here hx rfl (hb hby d7_24) rfl rfl ?_
    refine XS.iconst X7.here hx rfl (hb hby d7_25) ?_
    refine XS.aloadN X7.here hx rfl (hb hby d7_26) rfl rfl ?_
    show Steps _ _ _ (State.setTop _ (mkF m 27 #[rv st_, .unset, .unset, .unset, .unset] [(.ref st_), (.int 0), (.ref st_)])) _
    refine st14.trans ?_
    refine st18.trans ?_
    refine XS.istoreN X18.here hx rfl (hb hby d7_33) rfl (l' := #[rv st_, iv 1, .unset, .unset, .unset]) rfl ?_
    refine XS.iloadN X18.here hx rfl (hb hby d7_34) rfl ?_
    refine XS.sipush X18.here hx rfl (hb hby d7_35) ?_
    refine XS.icmpYes X18.here hx rfl (pc0 := 38) (pc' := 59) rfl (hb hby d7_38) rfl (flt (by decide : ¬ ((256 : Int32) < 1))).2.2.2 (by decide) (by decide) ?_
    refine XS.aloadN X18.here hx rfl (hb hby d7_59) rfl rfl ?_
    refine st20 _ ?_
    refine XS.istoreN X20.here hx rfl (hb hby d7_63) rfl (l' := #[rv st_, iv 1, iv (-1 : Int32), .unset, .unset]) rfl ?_
    show Steps _ _ _ (State.setTop _ (mkF m 64 #[rv st_, iv 1, iv (-1 : Int32), .unset, .unset] [])) _
    refine XS.iloadN X20.here hx rfl (hb hby d7_64) rfl ?_
    refine XS.ifYes X20.here hx rfl (pc0 := 65) (pc' := 117) rfl (hb hby d7_65) rfl ((if0 _ _).trans (tlt (by decide : (-1 : Int32) < 0)).1) (by decide) (by decide) ?_
    refine st22 _ ?_
    refine XS.dup X22.here hx rfl (hb hby d7_120) rfl rfl ?_
    refine XS.aloadN X22.here hx rfl (hb hby d7_121) rfl rfl ?_
    refine st29.trans ?_
    show Steps _ _ _ (State.setTop _ (mkF m 125 #[rv st_, iv 1, iv (-1 : Int32), .unset, .unset] [(.ref b22)])) _
    exact retOut X29 hx Bd.returns rfl (Or.inr (Or.inr (Or.inr (Or.inr ⟨rfl, rfl, rfl⟩)))) (hb hby d7_125) hr
  · show Q_of_1 Z _ _ _ _ _ h0 n0 _ T29.heap _
    exact ⟨b22, rfl, N31, (K32), bz26, f33, hq29_0⟩
theorem ef_of_2 (m : MethodId) (x0 : Addr) : entryFrame m #[(.ref x0)] 5 = mkF m 0 #[rv x0, .unset, .unset, .unset, .unset] [] := by first | (simp [entryFrame, mkF, argsToLocals, Value.category]; done) | rfl
def Q_of_2 (Z : State) (st_ sv_ : Addr) (c0 c1 cs : Int32) (fm : Value) (h0 : Heap) (n0 : Nat) (v : Option Value) (h : Heap) (L : List Loc) : Prop := ∃ (r : Addr), v = some (.ref r) ∧ Fr n0 L ∧ Keep h0 h [] ∧ (h0.size ≤ r) ∧ (Exa Z h r "com/example/arbiter/arbiter/Name") ∧ (Fld Z h r "com/example/arbiter/arbiter/Name" "text" "Ljava/lang/String;" (.ref st_))
set_option maxRecDepth 65536 in
set_option maxHeartbeats 40000000 in
theorem of_2 (l : Launch) (Z : State) (a0 : Array Value) (hw : ∀ d ∈ tables_1, d.before a0 Z = true) (ws : List Jvm.Cond) (st_ sv_ : Addr) (c0 c1 cs : Int32) (fm : Value) (h0 : Heap) (n0 : Nat) (Z0 : n0 ≤ h0.size) (pf_O : Old Z n0 h0) (pS_COMPAC : Sta Z Z.heap "java/lang/String" "COMPACT_STRINGS" "Z" (.int cs)) (hcs : ¬ (cs = 0)) (pS_SIOOBE : Sta Z Z.heap "jdk/internal/util/Preconditions" "SIOOBE_FORMATTER" "Ljava/util/function/BiFunction;" fm) (rfm : fm.isRef = true) (pf_E_st_ : Exa Z h0 st_ "java/lang/String") (pf_F_st__value : Fld Z h0 st_ "java/lang/String" "value" "[B" (.ref sv_)) (pf_F_st__coder : Fld Z h0 st_ "java/lang/String" "coder" "B" (.int 0)) (pf_A_sv_ : Av Z h0 sv_ .byte (2 : Int32) (own_vs [c0, c1]) (.int 0)) (hrA : ∀ c ∈ ([c0, c1] : List Int32), ¬ c < 0 ∧ ¬ (255 : Int32) < c) (hloc0 : (32 : Int32) < c0) (hloc1 : (32 : Int32) < c1) (hhic0 : c0 < 128) (hhic1 : c1 < 128) :
    MetFree l MN7 (head1 (Jvm.Cond.code MN7 prog_20_method_2_code 5 (some (.object "com/example/arbiter/arbiter/Name")) :: ws) (Room.mk 5 3 21 68)) (fun a U => a = #[(.ref st_)] ∧ Z.Warmed39 U.vm ∧ U.heap = h0) (fun _ _ _ _ _ => True) (fun _ U o U' => ∃ v L, o = .returned v ∧ Q_of_2 Z st_ sv_ c0 c1 cs fm h0 n0 v U'.heap L ∧ ReturnedEndW U o U' L (Room.mk 5 3 21 68).cells (Room.mk 5 3 21 68).slots) := by
  refine MetFree.of_bodySF (plainFor_of_name pn_com_example_arbiter_arbiter_Name) hisR ?_
  intro p e s m args below meth c s₁ Bd hml0 hP hK
  obtain ⟨rfl, hZ, hh⟩ := hP
  have hx := Bd.exec
  have hby := Bd.bytes
  have hml : c.maxLocals = 5 := hml0
  have hown : s.vm.findClass "com/example/arbiter/arbiter/Name" = some m.cls := findClass_of_methodNamed Bd.named
  have hnm := (name_of_methodNamed Bd.named Bd.method).1
  have X0 : Stand p l e (Room.mk 5 3 21 68) s m #[(.ref st_)] below meth c s₁ [] 0 0 := Stand.of_body Bd
  have e0 : s₁.heap = h0 := by rw [← hh, Bd.state]; rfl
  have N0 := Fr.nil n0
  have pre0 : ∀ t, Steps p.tables e below (s₁.setTop (mkF m 0 #[rv st_, .unset, .unset, .unset, .unset] [])) t → Steps p.tables e below (s₁.setTop (entryFrame m #[(.ref st_)] 5)) t := fun t k => castTop (ef_of_2 m st_) k
  have wo9 := hw _ (own_m 9 rfl)
  have wo17 := hw _ (own_m 17 rfl)
  have wo35 := hw _ (own_m 35 rfl)
  have wo37 := hw _ (own_m 37 rfl)
  have wo40 := hw _ (own_m 40 rfl)
  have wo41 := hw _ (own_m 41 rfl)
  have wo42 := hw _ (own_m 42 rfl)
  have wo43 := hw _ (own_m 43 rfl)
  have wo44 := hw _ (own_m 44 rfl)
  have wo45 := hw _ (own_m 45 rfl)
  have wo46 := hw _ (own_m 46 rfl)
  have wo47 := hw _ (own_m 47 rfl)
  have wo49 := hw _ (own_m 49 rfl)
  have wo50 := hw _ (own_m 50 rfl)
  have wo51 := hw _ (own_m 51 rfl)
  have wo52 := hw _ (own_m 52 rfl)
  have wo59 := hw _ (own_m 59 rfl)
  have wo60 := hw _ (own_m 60 rfl)
  have wo61 := hw _ (own_m 61 rfl)
  have wo62 := hw _ (own_m 62 rfl)
  have wo63 := hw _ (own_m 63 rfl)
  have wo77 := hw _ (own_m 77 rfl)
  have wo78 := hw _ (own_m 78 rfl)
  have wo79 := hw _ (own_m 79 rfl)
  have wo95 := hw _ (own_m 95 rfl)
  have wo96 := hw _ (own_m 96 rfl)
  have wo97 := hw _ (own_m 97 rfl)
  have wo98 := hw _ (own_m 98 rfl)
  have wo99 := hw _ (own_m 99 rfl)
  have wo102 := hw _ (own_m 102 rfl)
  have pre1 : ∀ t, Steps p.tables e below (s₁.setTop (mkF m 1 #[rv st_, .unset, .unset, .unset, .unset] [(.ref st_)])) t → Steps p.tables e below (s₁.setTop (entryFrame m #[(.ref st_)] 5)) t := by
    intro t_ k_
    refine pre0 _ ?_
    show Steps _ _ _ (State.setTop _ (mkF m 0 #[rv st_, .unset, .unset, .unset, .unset] [])) _
    refine XS.aloadN X0.here hx rfl (hb hby d7_0) rfl rfl ?_
    exact k_
  obtain ⟨sa2, T2, h2, k2, X2, e2, E2, S2, K2, hZ, hown, st2⟩ := ldcS (s := s) (vm0 := s.vm) X0 hx hZ hown wo37 (fun d hd => hw d ((by decide +kernel : ∀ d ∈ Bundle.stringAtoms, d ∈ tables_1) d hd)) e0 ((State.WarmedH.refl s).since 0) (Nat.zero_le _) (g := (mkF m 1 #[rv st_, .unset, .unset, .unset, .unset] [(.ref st_)])) rfl (hb hby d7_1) (n := 16) (by decide) (by decide) (by decide) (by decide)
  have K3 : Keep h0 h2 [] := (Keep.refl h0 []).ext E2
  have f5 := (Nat.le_trans Z0 E2.1)
  obtain ⟨_, _, ⟨T4, L4, k4, n4⟩, -, X4, ⟨Lc4, hQ4, l4, y4, z4⟩, st4⟩ := Jvm.LawKit.callS X2 hx (y := MN8) hown (mvT hZ wo40) (mvT hZ wo41) (mvT hZ wo42) (mvT hZ wo43) (by decide) (backOf (W := 0) (rm8 l Z a0 hw [] st_ sa2 h2 n0 f5 ) hZ wo43 wo42 (by decide) (by decide)) (g := (mkF m 3 #[rv st_, .unset, .unset, .unset, .unset] [(.ref sa2), (.ref st_)])) rfl (by rw [hml]; rfl) (argsL := [(.ref st_), (.ref sa2)]) (rest := []) (lenOf pd_24 rfl) rfl (by show 2 * 0 + _ ≤ _; exact Nat.le_of_eq rfl) (hb hby d7_3) (fun _ _ => ⟨rfl, e2, (by decide : 2 + 0 ≤ _), (by decide : 20 + 0 ≤ _)⟩)
  dsimp only [Pt.U, Pt.locs, Pt.cells, Pt.slots] at X4 l4 y4 z4 st4 hQ4
  rw [l4, y4, z4] at X4
  obtain ⟨rfl, N4q, K4q⟩ := hQ4
  have N6 := Fr.app N0 N4q
  have f10 := (pf_A_sv_.ext E2)
  obtain ⟨kv8, hv9⟩ := id f10
  have f11 := (pf_E_st_.ext E2)
  have f12 := (pf_F_st__value.ext E2)
  have f13 := (pf_F_st__coder.ext E2)
  have hws7 : ∀ d ∈ StrChars.Road.wordsEmp, d.before a0 Z = true := fun d hd => hw d ((by decide +kernel : ∀ d ∈ StrChars.Road.wordsEmp, d ∈ tables_1) d hd)
  obtain ⟨cq7, kq7, q7a, q7b, q7c⟩ := isOf hZ K4q f11
  obtain ⟨_, _, ⟨T7, L7, k7, n7⟩, -, X7, ⟨Lc7, hQ7, l7, y7, z7⟩, st7⟩ := X4.virtualBack hx (y := MN9) (z := MN9) hown (mvT hZ wo44) (mvT hZ wo45) (notFace_of_selects (args := #[]) (mvT hZ wo47)) (mvT hZ wo47) (mvT hZ wo46) (by decide) (StrChars.Road.empW (W := 0) hZ hws7 (kI := 4) wo17 f11 f12 f13 hv9 (own_cod (by rfl) hrA) (own_wid hrA) (Nat.le_of_ble_eq_true rfl) (by decide) (by decide)) q7a q7c (g := (mkF m 8 #[rv st_, .unset, .unset, .unset, .unset] [(.ref st_)])) rfl (by rw [hml]; rfl) (Steps.refl _) (argsL := []) (rest := []) (lenOf pd_4 rfl) rfl (by show 2 * 0 + _ ≤ _; exact Nat.le_of_eq rfl) (hb hby d7_8) (fun _ _ => ⟨rfl, K4q, (by decide : 2 + 0 ≤ _), (by decide : 20 + 0 ≤ _)⟩)
  dsimp only [Pt.U, Pt.locs, Pt.cells, Pt.slots] at X7 l7 y7 z7 st7 hQ7
  rw [l7, y7, z7] at X7
  obtain ⟨rfl, hl7, K7q⟩ := hQ7
  rw [hl7, List.append_nil] at X7
  obtain ⟨kv15, hv16⟩ := id f10
  have hws14 : ∀ d ∈ StrChars.Road.wordsLen, d.before a0 Z = true := fun d hd => hw d ((by decide +kernel : ∀ d ∈ StrChars.Road.wordsLen, d ∈ tables_1) d hd)
  have f17 := (pf_O.ext E2)
  obtain ⟨cq14, kq14, q14a, q14b, q14c⟩ := isOf hZ K7q f11
  obtain ⟨_, _, ⟨T14, L14, k14, n14⟩, -, X14, ⟨Lc14, hQ14, l14, y14, z14⟩, st14⟩ := X7.virtualBack hx (y := MN10) (z := MN10) hown (mvT hZ wo49) (mvT hZ wo50) (notFace_of_selects (args := #[]) (mvT hZ wo52)) (mvT hZ wo52) (mvT hZ wo51) (by decide) (StrChars.Road.lenW (W := 2) hZ hws14 (kI := 4) wo17 f11 f12 f13 hv16 (own_cod (by rfl) hrA) (own_wid hrA) (pS_COMPAC.ext f17.2) hcs (Nat.le_of_ble_eq_true rfl) (by decide) (by decide)) q14a q14c (g := (mkF m 27 #[rv st_, .unset, .unset, .unset, .unset] [(.ref st_), (.int 0), (.ref st_)])) rfl (by rw [hml]; rfl) (Steps.refl _) (argsL := []) (rest := [(.int 0), (.ref st_)]) (lenOf pd_1 rfl) rfl (by show 2 * 0 + _ ≤ _; exact Nat.le_of_eq rfl) (hb hby d7_27) (fun _ _ => ⟨rfl, K7q, (by decide : 2 + 0 ≤ _), (by decide : 20 + 0 ≤ _)⟩)
  dsimp only [Pt.U, Pt.locs, Pt.cells, Pt.slots] at X14 l14 y14 z14 st14 hQ14
  rw [l14, y14, z14] at X14
  obtain ⟨rfl, hl14, K14q⟩ := hQ14
  rw [hl14, List.append_nil] at X14
  obtain ⟨cq18, kq18, q18a, q18b, q18c⟩ := isOf hZ K14q f11
  obtain ⟨_, _, ⟨T18, L18, k18, n18⟩, -, X18, ⟨Lc18, hQ18, l18, y18, z18⟩, st18⟩ := X14.virtualBack hx (y := MN12) (z := MN12) hown (mvT hZ wo59) (mvT hZ wo60) (notFace_of_selects (args := #[]) (mvT hZ wo62)) (mvT hZ wo62) (mvT hZ wo61) (by decide) (backOf (W := 0) (cpc_2 l Z a0 hw [] st_ sv_ c0 c1 cs fm h2 n0 f5 f17 pS_COMPAC hcs pS_SIOOBE rfm f11 f12 f13 f10 hrA) hZ wo63 wo9 (by decide) (by decide)) q18a q18c (g := (mkF m 30 #[rv st_, .unset, .unset, .unset, .unset] [(.int 2), (.int 0), (.ref st_)])) rfl (by rw [hml]; rfl) (Steps.refl _) (argsL := [(.int 0), (.int 2)]) (rest := []) (lenOf pd_11 rfl) rfl (by show 2 * 0 + _ ≤ _; exact Nat.le_of_eq rfl) (hb hby d7_30) (fun _ _ => ⟨rfl, K14q, (by decide : 2 + 0 ≤ _), (by decide : 20 + 0 ≤ _)⟩)
  dsimp only [Pt.U, Pt.locs, Pt.cells, Pt.slots] at X18 l18 y18 z18 st18 hQ18
  rw [l18, y18, z18] at X18
  obtain ⟨rfl, N18q, K18q⟩ := hQ18
  have N19 := Fr.app N6 N18q
  obtain ⟨_, _, ⟨T20, L20, k20, n20⟩, -, X20, ⟨Lc20, hQ20, l20, y20, z20⟩, st20⟩ := Jvm.LawKit.callS X18 hx (y := MN16) hown (mvT hZ wo77) (mvT hZ wo78) (mvT hZ wo35) (mvT hZ wo79) (by decide) (backOf (W := 0) (ff_2 l Z a0 hw [] st_ sv_ c0 c1 cs fm h2 n0 f5 f17 pS_COMPAC hcs pS_SIOOBE rfm f11 f12 f13 f10 hrA hloc0 hloc1 hhic0 hhic1) hZ wo79 wo35 (by decide) (by decide)) (g := (mkF m 60 #[rv st_, iv 2, .unset, .unset, .unset] [(.ref st_)])) rfl (by rw [hml]; rfl) (argsL := [(.ref st_)]) (rest := []) (lenOf pd_25 rfl) rfl (by show 2 * 0 + _ ≤ _; exact Nat.le_of_eq rfl) (hb hby d7_60) (fun _ _ => ⟨rfl, K18q, (by decide : 2 + 0 ≤ _), (by decide : 20 + 0 ≤ _)⟩)
  dsimp only [Pt.U, Pt.locs, Pt.cells, Pt.slots] at X20 l20 y20 z20 st20 hQ20
  rw [l20, y20, z20] at X20
  obtain ⟨rfl, N20q, K20q⟩ := hQ20
  have N21 := Fr.app N19 N20q
  obtain ⟨T22, h22, X22, e22, E22, A22, D22, -, st22⟩ := newO X20 hx hZ hown wo95 wo96 wo35 K20q (g := (mkF m 117 #[rv st_, iv 2, iv (-1 : Int32), .unset, .unset] [])) rfl (hb hby d7_117) (by decide) (by decide)
  obtain ⟨b22, gg22⟩ : ∃ z, z = h2.size := ⟨_, rfl⟩
  rw [← gg22] at A22 D22 st22
  have ne23 : st_ ≠ b22 := Nat.ne_of_lt (Nat.lt_of_lt_of_le f11.lt (Nat.le_of_eq gg22.symm))
  have ne24 : sv_ ≠ b22 := Nat.ne_of_lt (Nat.lt_of_lt_of_le f10.lt (Nat.le_of_eq gg22.symm))
  have g25 : n0 ≤ b22 := Nat.le_trans f5 (Nat.le_of_eq gg22.symm)
  have bz26 : h0.size ≤ b22 := Nat.le_trans (K3).1 (Nat.le_of_eq gg22.symm)
  have K27 : Keep h0 h22 [] := (K3).ext E22
  have f28 : Fld Z h22 b22 "com/example/arbiter/arbiter/Name" "text" "Ljava/lang/String;" .null := D22 (Or.inr wo102) (ty := (.object "java/lang/String")) (by decide)
  have f30 := (Nat.le_trans f5 E22.1)
  obtain ⟨_, _, ⟨T29, L29, k29, n29⟩, -, X29, ⟨Lc29, hQ29, l29, y29, z29⟩, st29⟩ := X22.specialBack hx (y := MN21) rfl hown (mvT hZ wo97) (mvT hZ wo98) (mvT hZ wo99) (by decide) (backOf (W := 1) (rm21 l Z a0 hw [] b22 st_ h22 n0 f30 A22 g25 f28) hZ wo99 wo35 (by decide) (by decide)) (g := (mkF m 122 #[rv st_, iv 2, iv (-1 : Int32), .unset, .unset] [(.ref st_), (.ref b22), (.ref b22)])) rfl (by rw [hml]; rfl) (Steps.refl _) (a := b22) (argsL := [(.ref st_)]) (rest := [(.ref b22)]) (lenOf pd_27 rfl) rfl (by show 2 * 0 + _ ≤ _; exact Nat.le_of_eq rfl) (hb hby d7_122) (fun _ _ => ⟨rfl, e22, (by decide : 3 + 0 ≤ _), (by decide : 21 + 0 ≤ _)⟩)
  dsimp only [Pt.U, Pt.locs, Pt.cells, Pt.slots] at X29 l29 y29 z29 st29 hQ29
  rw [l29, y29, z29] at X29
  obtain ⟨rfl, N29q, K29q, hq29_0⟩ := hQ29
  have N31 := Fr.app N21 N29q
  have K32 : Keep h0 T29.heap [] := (K27).trans K29q (allS (P := fun x => x ∈ [] ∨ h0.size ≤ x) (Or.inr bz26) all0)
  have f33 := (A22.keep K29q)
  have f34 := (Nat.le_trans (Nat.le_trans K2 E22.1) K29q.1)
  obtain ⟨fs, hr, hrun, hended, -, hW1, hW2, hW3⟩ := X29.leaveW S2 f34 (v := some (.ref b22)) (fun h => by rw [Bd.returns] at h; cases h)
  refine ⟨_, _, pre1 _ ?_, hrun, hended, _, _, rfl, ?_, ⟨_, rfl⟩, hW1, hW2, hW3.mono (by decide) (by decide)⟩
  · show Steps _ _ _ (State.setTop _ (mkF m 1 #[rv st_, .unset, .unset, .unset, .unset] [(.ref st_)])) _
    refine st2 _ ?_
    refine st4 _ ?_
    refine XS.pop X4.here hx rfl (hb hby d7_6) rfl rfl ?_
    refine XS.aloadN X4.here hx rfl (hb hby d7_7) rfl rfl ?_
    refine st7.trans ?_
    refine XS.ifYes X7.here hx rfl (pc0 := 11) (pc' := 24) rfl (hb hby d7_11) rfl ((if0 _ _).trans (teq (by decide : (0 : Int32) = 0)).1) (by decide) (by decide) ?_
    refine XS.aloadN X7.here hx rfl (hb hby d7_24) rfl rfl ?_
    refine XS.iconst X7.here hx rfl (hb hby d7_25) ?_
    refine XS.aloadN X7.here hx rfl (hb hby d7_26) rfl rfl ?_
    show Steps _ _ _ (State.setTop _ (mkF m 27 #[rv st_, .unset, .unset, .unset, .unset] [(.ref st_), (.int 0), (.ref st_)])) _
    refine st14.trans ?_
    refine st18.trans ?_
    refine XS.istoreN X18.here hx rfl (hb hby d7_33) rfl (l' := #[rv st_, iv 2, .unset, .unset, .unset]) rfl ?_
    refine XS.iloadN X18.here hx rfl (hb hby d7_34) rfl ?_
    refine XS.sipush X18.here hx rfl (hb hby d7_35) ?_
    refine XS.icmpYes X18.here hx rfl (pc0 := 38) (pc' := 59) rfl (hb hby d7_38) rfl (flt (by decide : ¬ ((256 : Int32) < 2))).2.2.2 (by decide) (by decide) ?_
    refine XS.aloadN X18.here hx rfl (hb hby d7_59) rfl rfl ?_
    refine st20 _ ?_
    refine XS.istoreN X20.here hx rfl (hb hby d7_63) rfl (l' := #[rv st_, iv 2, iv (-1 : Int32), .unset, .unset]) rfl ?_
    show Steps _ _ _ (State.setTop _ (mkF m 64 #[rv st_, iv 2, iv (-1 : Int32), .unset, .unset] [])) _
    refine XS.iloadN X20.here hx rfl (hb hby d7_64) rfl ?_
    refine XS.ifYes X20.here hx rfl (pc0 := 65) (pc' := 117) rfl (hb hby d7_65) rfl ((if0 _ _).trans (tlt (by decide : (-1 : Int32) < 0)).1) (by decide) (by decide) ?_
    refine st22 _ ?_
    refine XS.dup X22.here hx rfl (hb hby d7_120) rfl rfl ?_
    refine XS.aloadN X22.here hx rfl (hb hby d7_121) rfl rfl ?_
    refine st29.trans ?_
    show Steps _ _ _ (State.setTop _ (mkF m 125 #[rv st_, iv 2, iv (-1 : Int32), .unset, .unset] [(.ref b22)])) _
    exact retOut X29 hx Bd.returns rfl (Or.inr (Or.inr (Or.inr (Or.inr ⟨rfl, rfl, rfl⟩)))) (hb hby d7_125) hr
  · show Q_of_2 Z _ _ _ _ _ _ h0 n0 _ T29.heap _
    exact ⟨b22, rfl, N31, (K32), bz26, f33, hq29_0⟩
theorem d29_0 : decode prog_20_method_6_code 0 = .ok (.aload_n 0, 1) := by decide +kernel
theorem d29_1 : decode prog_20_method_6_code 1 = .ok (.getfield 7, 3) := by decide +kernel
theorem d29_4 : decode prog_20_method_6_code 4 = .ok (.areturn, 1) := by decide +kernel
theorem ef_ts (m : MethodId) (x0 : Addr) : entryFrame m #[(.ref x0)] 1 = mkF m 0 #[rv x0] [] := by first | (simp [entryFrame, mkF, argsToLocals, Value.category]; done) | rfl
def Q_ts (Z : State) (nm tx : Addr) (h0 : Heap) (n0 : Nat) (v : Option Value) (h : Heap) (L : List Loc) : Prop := v = some (.ref tx) ∧ Fr n0 L ∧ h = h0
set_option maxRecDepth 65536 in
set_option maxHeartbeats 40000000 in
theorem ts (l : Launch) (Z : State) (a0 : Array Value) (hw : ∀ d ∈ tables_1, d.before a0 Z = true) (ws : List Jvm.Cond) (nm tx : Addr) (h0 : Heap) (n0 : Nat) (Z0 : n0 ≤ h0.size) (pf_F_nm_text : Fld Z h0 nm "com/example/arbiter/arbiter/Name" "text" "Ljava/lang/String;" (.ref tx)) :
    MetFree l MN29 (head1 (Jvm.Cond.code MN29 prog_20_method_6_code 1 (some (.object "java/lang/String")) :: ws) (Room.mk 0 0 0 0)) (fun a U => a = #[(.ref nm)] ∧ Z.Warmed39 U.vm ∧ U.heap = h0) (fun _ _ _ _ _ => True) (fun _ U o U' => ∃ v L, o = .returned v ∧ Q_ts Z nm tx h0 n0 v U'.heap L ∧ FrameEnd U o U' L (Room.mk 0 0 0 0).cells (Room.mk 0 0 0 0).slots) := by
  refine MetFree.of_bodySF (plainFor_of_name pn_com_example_arbiter_arbiter_Name) hisR ?_
  intro p e s m args below meth c s₁ Bd hml0 hP hK
  obtain ⟨rfl, hZ, hh⟩ := hP
  have hx := Bd.exec
  have hby := Bd.bytes
  have hml : c.maxLocals = 1 := hml0
  have hown : s.vm.findClass "com/example/arbiter/arbiter/Name" = some m.cls := findClass_of_methodNamed Bd.named
  have hnm := (name_of_methodNamed Bd.named Bd.method).1
  have X0 : Stand p l e (Room.mk 0 0 0 0) s m #[(.ref nm)] below meth c s₁ [] 0 0 := Stand.of_body Bd
  have e0 : s₁.heap = h0 := by rw [← hh, Bd.state]; rfl
  have N0 := Fr.nil n0
  have pre0 : ∀ t, Steps p.tables e below (s₁.setTop (mkF m 0 #[rv nm] [])) t → Steps p.tables e below (s₁.setTop (entryFrame m #[(.ref nm)] 1)) t := fun t k => castTop (ef_ts m nm) k
  have wo101 := hw _ (own_m 101 rfl)
  obtain ⟨T1, X1, e1, st1⟩ := getF X0 hx hZ hown (host := "") (Or.inl wo101) Via.refl e0 pf_F_nm_text (g := (mkF m 1 #[rv nm] [(.ref nm)])) rfl rfl (hb hby d29_1)
  obtain ⟨fs, hr, hrun, hended, hW, hsame⟩ := X1.leave (v := some (.ref tx)) (fun h => by rw [Bd.returns] at h; cases h)
  refine ⟨_, _, pre0 _ ?_, hrun, hended, _, _, rfl, ?_, ⟨_, rfl⟩, hW, hsame.mono (by decide) (by decide)⟩
  · show Steps _ _ _ (State.setTop _ (mkF m 0 #[rv nm] [])) _
    refine XS.aloadN X0.here hx rfl (hb hby d29_0) rfl rfl ?_
    show Steps _ _ _ (State.setTop _ (mkF m 1 #[rv nm] [(.ref nm)])) _
    refine st1 _ ?_
    show Steps _ _ _ (State.setTop _ (mkF m 4 #[rv nm] [(.ref tx)])) _
    exact retOut X1 hx Bd.returns rfl (Or.inr (Or.inr (Or.inr (Or.inr ⟨rfl, rfl, rfl⟩)))) (hb hby d29_4) hr
  · show Q_ts Z _ _ h0 n0 _ T1.heap _
    rw [e1]
    exact ⟨rfl, N0, rfl⟩
theorem d33_0 : decode prog_25_method_31_code 0 = .ok (.aload_n 0, 1) := by decide +kernel
theorem d33_1 : decode prog_25_method_31_code 1 = .ok (.iload_n 1, 1) := by decide +kernel
theorem d33_2 : decode prog_25_method_31_code 2 = .ok (.invokevirtual 156, 3) := by decide +kernel
theorem d33_5 : decode prog_25_method_31_code 5 = .ok (.istore_n 2, 1) := by decide +kernel
theorem d33_6 : decode prog_25_method_31_code 6 = .ok (.iload_n 1, 1) := by decide +kernel
theorem d33_7 : decode prog_25_method_31_code 7 = .ok (.iconst 1, 1) := by decide +kernel
theorem d33_8 : decode prog_25_method_31_code 8 = .ok (.iadd, 1) := by decide +kernel
theorem d33_9 : decode prog_25_method_31_code 9 = .ok (.aload_n 0, 1) := by decide +kernel
theorem d33_10 : decode prog_25_method_31_code 10 = .ok (.invokevirtual 144, 3) := by decide +kernel
theorem d33_13 : decode prog_25_method_31_code 13 = .ok (.if_icmp .ge 16, 3) := by decide +kernel
theorem d33_29 : decode prog_25_method_31_code 29 = .ok (.iload_n 2, 1) := by decide +kernel
theorem d33_30 : decode prog_25_method_31_code 30 = .ok (.ireturn, 1) := by decide +kernel
theorem pn_com_example_arbiter_arbiter_OrdinalTable : plainName "com/example/arbiter/arbiter/OrdinalTable" = true := by first | (simp [plainName, overriddenIn]; done) | decide +kernel
theorem ef_wd_1 (m : MethodId) (x0 : Addr) (x1 : Int32) : entryFrame m #[(.ref x0), (.int x1)] 3 = mkF m 0 #[rv x0, iv x1, .unset] [] := by first | (simp [entryFrame, mkF, argsToLocals, Value.category]; done) | rfl
def Q_wd_1 (Z : State) (st_ sv_ : Addr) (c0 cs : Int32) (fm : Value) (h0 : Heap) (n0 : Nat) (v : Option Value) (h : Heap) (L : List Loc) : Prop := v = some (.int c0) ∧ Fr n0 L ∧ h = h0
set_option maxRecDepth 65536 in
set_option maxHeartbeats 40000000 in
theorem wd_1 (l : Launch) (Z : State) (a0 : Array Value) (hw : ∀ d ∈ tables_1, d.before a0 Z = true) (ws : List Jvm.Cond) (st_ sv_ : Addr) (c0 cs : Int32) (fm : Value) (h0 : Heap) (n0 : Nat) (Z0 : n0 ≤ h0.size) (pf_O : Old Z n0 h0) (pS_COMPAC : Sta Z Z.heap "java/lang/String" "COMPACT_STRINGS" "Z" (.int cs)) (hcs : ¬ (cs = 0)) (pS_SIOOBE : Sta Z Z.heap "jdk/internal/util/Preconditions" "SIOOBE_FORMATTER" "Ljava/util/function/BiFunction;" fm) (rfm : fm.isRef = true) (pf_E_st_ : Exa Z h0 st_ "java/lang/String") (pf_F_st__value : Fld Z h0 st_ "java/lang/String" "value" "[B" (.ref sv_)) (pf_F_st__coder : Fld Z h0 st_ "java/lang/String" "coder" "B" (.int 0)) (pf_A_sv_ : Av Z h0 sv_ .byte (1 : Int32) (own_vs [c0]) (.int 0)) (hrA : ∀ c ∈ ([c0] : List Int32), ¬ c < 0 ∧ ¬ (255 : Int32) < c) :
    MetFree l MN33 (head1 (Jvm.Cond.code MN33 prog_25_method_31_code 3 (some .int) :: ws) (Room.mk 4 0 0 53)) (fun a U => a = #[(.ref st_), (.int 0)] ∧ Z.Warmed39 U.vm ∧ U.heap = h0) (fun _ _ _ _ _ => True) (fun _ U o U' => ∃ v L, o = .returned v ∧ Q_wd_1 Z st_ sv_ c0 cs fm h0 n0 v U'.heap L ∧ FrameEnd U o U' L (Room.mk 4 0 0 53).cells (Room.mk 4 0 0 53).slots) := by
  refine MetFree.of_bodySF (plainFor_of_name pn_com_example_arbiter_arbiter_OrdinalTable) hisR ?_
  intro p e s m args below meth c s₁ Bd hml0 hP hK
  obtain ⟨rfl, hZ, hh⟩ := hP
  have hx := Bd.exec
  have hby := Bd.bytes
  have hml : c.maxLocals = 3 := hml0
  have hown : s.vm.findClass "com/example/arbiter/arbiter/OrdinalTable" = some m.cls := findClass_of_methodNamed Bd.named
  have hnm := (name_of_methodNamed Bd.named Bd.method).1
  have X0 : Stand p l e (Room.mk 4 0 0 53) s m #[(.ref st_), (.int 0)] below meth c s₁ [] 0 0 := Stand.of_body Bd
  have e0 : s₁.heap = h0 := by rw [← hh, Bd.state]; rfl
  have N0 := Fr.nil n0
  have pre0 : ∀ t, Steps p.tables e below (s₁.setTop (mkF m 0 #[rv st_, iv 0, .unset] [])) t → Steps p.tables e below (s₁.setTop (entryFrame m #[(.ref st_), (.int 0)] 3)) t := fun t k => castTop (ef_wd_1 m st_ (0 : Int32)) k
  have wo17 := hw _ (own_m 17 rfl)
  have wo50 := hw _ (own_m 50 rfl)
  have wo51 := hw _ (own_m 51 rfl)
  have wo52 := hw _ (own_m 52 rfl)
  have wo81 := hw _ (own_m 81 rfl)
  have wo82 := hw _ (own_m 82 rfl)
  have wo83 := hw _ (own_m 83 rfl)
  have wo161 := hw _ (own_m 161 rfl)
  have wo165 := hw _ (own_m 165 rfl)
  obtain ⟨kv2, hv3⟩ := id pf_A_sv_
  have hws1 : ∀ d ∈ StrChars.Road.wordsChN, d.before a0 Z = true := fun d hd => hw d ((by decide +kernel : ∀ d ∈ StrChars.Road.wordsChN, d ∈ tables_1) d hd)
  obtain ⟨cq1, kq1, q1a, q1b, q1c⟩ := isOf hZ e0 pf_E_st_
  obtain ⟨_, _, ⟨T1, L1, k1, n1⟩, -, X1, ⟨Lc1, hQ1, l1, y1, z1⟩, st1⟩ := X0.virtualBack hx (y := MN17) (z := MN17) hown (mvT hZ wo165) (mvT hZ wo81) (notFace_of_selects (args := #[]) (mvT hZ wo83)) (mvT hZ wo83) (mvT hZ wo82) (by decide) (StrChars.Road.chN (W := 0) hZ hws1 (kI := 4) wo17 (i := 0) pf_E_st_ pf_F_st__value pf_F_st__coder hv3 (own_cod (by rfl) hrA) (own_wid hrA) (pS_COMPAC.ext pf_O.2) hcs (pS_SIOOBE.ext pf_O.2) rfm (Nat.le_of_ble_eq_true rfl) (Nat.le_of_ble_eq_true rfl) rfl (by decide) (by decide)) q1a q1c (g := (mkF m 2 #[rv st_, iv 0, .unset] [(.int 0), (.ref st_)])) rfl (by rw [hml]; rfl) (Steps.refl _) (argsL := [(.int 0)]) (rest := []) (lenOf pd_8 rfl) rfl (by show 2 * 0 + _ ≤ _; exact Nat.le_of_eq rfl) (hb hby d33_2) (fun _ _ => ⟨rfl, e0, (by decide : 0 + 0 ≤ _), (by decide : 0 + 0 ≤ _)⟩)
  dsimp only [Pt.U, Pt.locs, Pt.cells, Pt.slots] at X1 l1 y1 z1 st1 hQ1
  rw [l1, y1, z1] at X1
  obtain ⟨rfl, hl1, K1q⟩ := hQ1
  rw [hl1, List.append_nil] at X1
  obtain ⟨kv5, hv6⟩ := id pf_A_sv_
  have hws4 : ∀ d ∈ StrChars.Road.wordsLen, d.before a0 Z = true := fun d hd => hw d ((by decide +kernel : ∀ d ∈ StrChars.Road.wordsLen, d ∈ tables_1) d hd)
  obtain ⟨cq4, kq4, q4a, q4b, q4c⟩ := isOf hZ K1q pf_E_st_
  obtain ⟨_, _, ⟨T4, L4, k4, n4⟩, -, X4, ⟨Lc4, hQ4, l4, y4, z4⟩, st4⟩ := X1.virtualBack hx (y := MN10) (z := MN10) hown (mvT hZ wo161) (mvT hZ wo50) (notFace_of_selects (args := #[]) (mvT hZ wo52)) (mvT hZ wo52) (mvT hZ wo51) (by decide) (StrChars.Road.lenW (W := 1) hZ hws4 (kI := 4) wo17 pf_E_st_ pf_F_st__value pf_F_st__coder hv6 (own_cod (by rfl) hrA) (own_wid hrA) (pS_COMPAC.ext pf_O.2) hcs (Nat.le_of_ble_eq_true rfl) (by decide) (by decide)) q4a q4c (g := (mkF m 10 #[rv st_, iv 0, iv c0] [(.ref st_), (.int 1)])) rfl (by rw [hml]; rfl) (Steps.refl _) (argsL := []) (rest := [(.int 1)]) (lenOf pd_1 rfl) rfl (by show 2 * 0 + _ ≤ _; exact Nat.le_of_eq rfl) (hb hby d33_10) (fun _ _ => ⟨rfl, K1q, (by decide : 0 + 0 ≤ _), (by decide : 0 + 0 ≤ _)⟩)
  dsimp only [Pt.U, Pt.locs, Pt.cells, Pt.slots] at X4 l4 y4 z4 st4 hQ4
  rw [l4, y4, z4] at X4
  obtain ⟨rfl, hl4, K4q⟩ := hQ4
  rw [hl4, List.append_nil] at X4
  obtain ⟨fs, hr, hrun, hended, hW, hsame⟩ := X4.leave (v := some (.int c0)) (fun h => by rw [Bd.returns] at h; cases h)
  refine ⟨_, _, pre0 _ ?_, hrun, hended, _, _, rfl, ?_, ⟨_, rfl⟩, hW, hsame.mono (by decide) (by decide)⟩
  · show Steps _ _ _ (State.setTop _ (mkF m 0 #[rv st_, iv 0, .unset] [])) _
    refine XS.aloadN X0.here hx rfl (hb hby d33_0) rfl rfl ?_
    show Steps _ _ _ (State.setTop _ (mkF m 1 #[rv st_, iv 0, .unset] [(.ref st_)])) _
    refine XS.iloadN X0.here hx rfl (hb hby d33_1) rfl ?_
    refine st1.trans ?_
    refine XS.istoreN X1.here hx rfl (hb hby d33_5) rfl (l' := #[rv st_, iv 0, iv c0]) rfl ?_
    refine XS.iloadN X1.here hx rfl (hb hby d33_6) rfl ?_
    refine XS.iconst X1.here hx rfl (hb hby d33_7) ?_
    refine XS.iadd X1.here hx rfl (hb hby d33_8) rfl ?_
    refine XS.aloadN X1.here hx rfl (hb hby d33_9) rfl rfl ?_
    refine st4.trans ?_
    refine XS.icmpYes X4.here hx rfl (pc0 := 13) (pc' := 29) rfl (hb hby d33_13) rfl (flt (by decide : ¬ ((1 : Int32) < 1))).2.1 (by decide) (by decide) ?_
    show Steps _ _ _ (State.setTop _ (mkF m 29 #[rv st_, iv 0, iv c0] [])) _
    refine XS.iloadN X4.here hx rfl (hb hby d33_29) rfl ?_
    show Steps _ _ _ (State.setTop _ (mkF m 30 #[rv st_, iv 0, iv c0] [(.int c0)])) _
    exact retI X4 hx Bd.returns (hb hby d33_30) hr
  · show Q_wd_1 Z _ _ _ _ _ h0 n0 _ T4.heap _
    rw [K4q]
    exact ⟨rfl, N0, rfl⟩
theorem d33_16 : decode prog_25_method_31_code 16 = .ok (.iload_n 2, 1) := by decide +kernel
theorem d33_17 : decode prog_25_method_31_code 17 = .ok (.aload_n 0, 1) := by decide +kernel
theorem d33_18 : decode prog_25_method_31_code 18 = .ok (.iload_n 1, 1) := by decide +kernel
theorem d33_19 : decode prog_25_method_31_code 19 = .ok (.iconst 1, 1) := by decide +kernel
theorem d33_20 : decode prog_25_method_31_code 20 = .ok (.iadd, 1) := by decide +kernel
theorem d33_21 : decode prog_25_method_31_code 21 = .ok (.invokevirtual 156, 3) := by decide +kernel
theorem d33_24 : decode prog_25_method_31_code 24 = .ok (.bipush 16, 2) := by decide +kernel
theorem d33_26 : decode prog_25_method_31_code 26 = .ok (.ishl, 1) := by decide +kernel
theorem d33_27 : decode prog_25_method_31_code 27 = .ok (.ior, 1) := by decide +kernel
theorem d33_28 : decode prog_25_method_31_code 28 = .ok (.istore_n 2, 1) := by decide +kernel
theorem ef_wd_2 (m : MethodId) (x0 : Addr) (x1 : Int32) : entryFrame m #[(.ref x0), (.int x1)] 3 = mkF m 0 #[rv x0, iv x1, .unset] [] := by first | (simp [entryFrame, mkF, argsToLocals, Value.category]; done) | rfl
def Q_wd_2 (Z : State) (st_ sv_ : Addr) (c0 c1 cs : Int32) (fm : Value) (h0 : Heap) (n0 : Nat) (v : Option Value) (h : Heap) (L : List Loc) : Prop := v = some (.int (c0 ||| (c1 <<< ((16 : Int32) &&& 31)))) ∧ Fr n0 L ∧ h = h0
set_option maxRecDepth 65536 in
set_option maxHeartbeats 40000000 in
theorem wd_2 (l : Launch) (Z : State) (a0 : Array Value) (hw : ∀ d ∈ tables_1, d.before a0 Z = true) (ws : List Jvm.Cond) (st_ sv_ : Addr) (c0 c1 cs : Int32) (fm : Value) (h0 : Heap) (n0 : Nat) (Z0 : n0 ≤ h0.size) (pf_O : Old Z n0 h0) (pS_COMPAC : Sta Z Z.heap "java/lang/String" "COMPACT_STRINGS" "Z" (.int cs)) (hcs : ¬ (cs = 0)) (pS_SIOOBE : Sta Z Z.heap "jdk/internal/util/Preconditions" "SIOOBE_FORMATTER" "Ljava/util/function/BiFunction;" fm) (rfm : fm.isRef = true) (pf_E_st_ : Exa Z h0 st_ "java/lang/String") (pf_F_st__value : Fld Z h0 st_ "java/lang/String" "value" "[B" (.ref sv_)) (pf_F_st__coder : Fld Z h0 st_ "java/lang/String" "coder" "B" (.int 0)) (pf_A_sv_ : Av Z h0 sv_ .byte (2 : Int32) (own_vs [c0, c1]) (.int 0)) (hrA : ∀ c ∈ ([c0, c1] : List Int32), ¬ c < 0 ∧ ¬ (255 : Int32) < c) :
    MetFree l MN33 (head1 (Jvm.Cond.code MN33 prog_25_method_31_code 3 (some .int) :: ws) (Room.mk 4 0 0 54)) (fun a U => a = #[(.ref st_), (.int 0)] ∧ Z.Warmed39 U.vm ∧ U.heap = h0) (fun _ _ _ _ _ => True) (fun _ U o U' => ∃ v L, o = .returned v ∧ Q_wd_2 Z st_ sv_ c0 c1 cs fm h0 n0 v U'.heap L ∧ FrameEnd U o U' L (Room.mk 4 0 0 54).cells (Room.mk 4 0 0 54).slots) := by
  refine MetFree.of_bodySF (plainFor_of_name pn_com_example_arbiter_arbiter_OrdinalTable) hisR ?_
  intro p e s m args below meth c s₁ Bd hml0 hP hK
  obtain ⟨rfl, hZ, hh⟩ := hP
  have hx := Bd.exec
  have hby := Bd.bytes
  have hml : c.maxLocals = 3 := hml0
  have hown : s.vm.findClass "com/example/arbiter/arbiter/OrdinalTable" = some m.cls := findClass_of_methodNamed Bd.named
  have hnm := (name_of_methodNamed Bd.named Bd.method).1
  have X0 : Stand p l e (Room.mk 4 0 0 54) s m #[(.ref st_), (.int 0)] below meth c s₁ [] 0 0 := Stand.of_body Bd
  have e0 : s₁.heap = h0 := by rw [← hh, Bd.state]; rfl
  have N0 := Fr.nil n0
  have pre0 : ∀ t, Steps p.tables e below (s₁.setTop (mkF m 0 #[rv st_, iv 0, .unset] [])) t → Steps p.tables e below (s₁.setTop (entryFrame m #[(.ref st_), (.int 0)] 3)) t := fun t k => castTop (ef_wd_2 m st_ (0 : Int32)) k
  have wo17 := hw _ (own_m 17 rfl)
  have wo50 := hw _ (own_m 50 rfl)
  have wo51 := hw _ (own_m 51 rfl)
  have wo52 := hw _ (own_m 52 rfl)
  have wo81 := hw _ (own_m 81 rfl)
  have wo82 := hw _ (own_m 82 rfl)
  have wo83 := hw _ (own_m 83 rfl)
  have wo161 := hw _ (own_m 161 rfl)
  have wo165 := hw _ (own_m 165 rfl)
  obtain ⟨kv2, hv3⟩ := id pf_A_sv_
  have hws1 : ∀ d ∈ StrChars.Road.wordsChN, d.before a0 Z = true := fun d hd => hw d ((by decide +kernel : ∀ d ∈ StrChars.Road.wordsChN, d ∈ tables_1) d hd)
  obtain ⟨cq1, kq1, q1a, q1b, q1c⟩ := isOf hZ e0 pf_E_st_
  obtain ⟨_, _, ⟨T1, L1, k1, n1⟩, -, X1, ⟨Lc1, hQ1, l1, y1, z1⟩, st1⟩ := X0.virtualBack hx (y := MN17) (z := MN17) hown (mvT hZ wo165) (mvT hZ wo81) (notFace_of_selects (args := #[]) (mvT hZ wo83)) (mvT hZ wo83) (mvT hZ wo82) (by decide) (StrChars.Road.chN (W := 0) hZ hws1 (kI := 4) wo17 (i := 0) pf_E_st_ pf_F_st__value pf_F_st__coder hv3 (own_cod (by rfl) hrA) (own_wid hrA) (pS_COMPAC.ext pf_O.2) hcs (pS_SIOOBE.ext pf_O.2) rfm (Nat.le_of_ble_eq_true rfl) (Nat.le_of_ble_eq_true rfl) rfl (by decide) (by decide)) q1a q1c (g := (mkF m 2 #[rv st_, iv 0, .unset] [(.int 0), (.ref st_)])) rfl (by rw [hml]; rfl) (Steps.refl _) (argsL := [(.int 0)]) (rest := []) (lenOf pd_8 rfl) rfl (by show 2 * 0 + _ ≤ _; exact Nat.le_of_eq rfl) (hb hby d33_2) (fun _ _ => ⟨rfl, e0, (by decide : 0 + 0 ≤ _), (by decide : 0 + 0 ≤ _)⟩)
  dsimp only [Pt.U, Pt.locs, Pt.cells, Pt.slots] at X1 l1 y1 z1 st1 hQ1
  rw [l1, y1, z1] at X1
  obtain ⟨rfl, hl1, K1q⟩ := hQ1
  rw [hl1, List.append_nil] at X1
  obtain ⟨kv5, hv6⟩ := id pf_A_sv_
  have hws4 : ∀ d ∈ StrChars.Road.wordsLen, d.before a0 Z = true := fun d hd => hw d ((by decide +kernel : ∀ d ∈ StrChars.Road.wordsLen, d ∈ tables_1) d hd)
  obtain ⟨cq4, kq4, q4a, q4b, q4c⟩ := isOf hZ K1q pf_E_st_
  obtain ⟨_, _, ⟨T4, L4, k4, n4⟩, -, X4, ⟨Lc4, hQ4, l4, y4, z4⟩, st4⟩ := X1.virtualBack hx (y := MN10) (z := MN10) hown (mvT hZ wo161) (mvT hZ wo50) (notFace_of_selects (args := #[]) (mvT hZ wo52)) (mvT hZ wo52) (mvT hZ wo51) (by decide) (StrChars.Road.lenW (W := 1) hZ hws4 (kI := 4) wo17 pf_E_st_ pf_F_st__value pf_F_st__coder hv6 (own_cod (by rfl) hrA) (own_wid hrA) (pS_COMPAC.ext pf_O.2) hcs (Nat.le_of_ble_eq_true rfl) (by decide) (by decide)) q4a q4c (g := (mkF m 10 #[rv st_, iv 0, iv c0] [(.ref st_), (.int 1)])) rfl (by rw [hml]; rfl) (Steps.refl _) (argsL := []) (rest := [(.int 1)]) (lenOf pd_1 rfl) rfl (by show 2 * 0 + _ ≤ _; exact Nat.le_of_eq rfl) (hb hby d33_10) (fun _ _ => ⟨rfl, K1q, (by decide : 0 + 0 ≤ _), (by decide : 0 + 0 ≤ _)⟩)
  dsimp only [Pt.U, Pt.locs, Pt.cells, Pt.slots] at X4 l4 y4 z4 st4 hQ4
  rw [l4, y4, z4] at X4
  obtain ⟨rfl, hl4, K4q⟩ := hQ4
  rw [hl4, List.append_nil] at X4
  obtain ⟨kv8, hv9⟩ := id pf_A_sv_
  have hws7 : ∀ d ∈ StrChars.Road.wordsChN, d.before a0 Z = true := fun d hd => hw d ((by decide +kernel : ∀ d ∈ StrChars.Road.wordsChN, d ∈ tables_1) d hd)
  obtain ⟨cq7, kq7, q7a, q7b, q7c⟩ := isOf hZ K4q pf_E_st_
  obtain ⟨_, _, ⟨T7, L7, k7, n7⟩, -, X7, ⟨Lc7, hQ7, l7, y7, z7⟩, st7⟩ := X4.virtualBack hx (y := MN17) (z := MN17) hown (mvT hZ wo165) (mvT hZ wo81) (notFace_of_selects (args := #[]) (mvT hZ wo83)) (mvT hZ wo83) (mvT hZ wo82) (by decide) (StrChars.Road.chN (W := 1) hZ hws7 (kI := 4) wo17 (i := 1) pf_E_st_ pf_F_st__value pf_F_st__coder hv9 (own_cod (by rfl) hrA) (own_wid hrA) (pS_COMPAC.ext pf_O.2) hcs (pS_SIOOBE.ext pf_O.2) rfm (Nat.le_of_ble_eq_true rfl) (Nat.le_of_ble_eq_true rfl) rfl (by decide) (by decide)) q7a q7c (g := (mkF m 21 #[rv st_, iv 0, iv c0] [(.int 1), (.ref st_), (.int c0)])) rfl (by rw [hml]; rfl) (Steps.refl _) (argsL := [(.int 1)]) (rest := [(.int c0)]) (lenOf pd_8 rfl) rfl (by show 2 * 0 + _ ≤ _; exact Nat.le_of_eq rfl) (hb hby d33_21) (fun _ _ => ⟨rfl, K4q, (by decide : 0 + 0 ≤ _), (by decide : 0 + 0 ≤ _)⟩)
  dsimp only [Pt.U, Pt.locs, Pt.cells, Pt.slots] at X7 l7 y7 z7 st7 hQ7
  rw [l7, y7, z7] at X7
  obtain ⟨rfl, hl7, K7q⟩ := hQ7
  rw [hl7, List.append_nil] at X7
  obtain ⟨fs, hr, hrun, hended, hW, hsame⟩ := X7.leave (v := some (.int (c0 ||| (c1 <<< ((16 : Int32) &&& 31))))) (fun h => by rw [Bd.returns] at h; cases h)
  refine ⟨_, _, pre0 _ ?_, hrun, hended, _, _, rfl, ?_, ⟨_, rfl⟩, hW, hsame.mono (by decide) (by decide)⟩
  · show Steps _ _ _ (State.setTop _ (mkF m 0 #[rv st_, iv 0, .unset] [])) _
    refine XS.aloadN X0.here hx rfl (hb hby d33_0) rfl rfl ?_
    show Steps _ _ _ (State.setTop _ (mkF m 1 #[rv st_, iv 0, .unset] [(.ref st_)])) _
    refine XS.iloadN X0.here hx rfl (hb hby d33_1) rfl ?_
    refine st1.trans ?_
    refine XS.istoreN X1.here hx rfl (hb hby d33_5) rfl (l' := #[rv st_, iv 0, iv c0]) rfl ?_
    refine XS.iloadN X1.here hx rfl (hb hby d33_6) rfl ?_
    refine XS.iconst X1.here hx rfl (hb hby d33_7) ?_
    refine XS.iadd X1.here hx rfl (hb hby d33_8) rfl ?_
    refine XS.aloadN X1.here hx rfl (hb hby d33_9) rfl rfl ?_
    refine st4.trans ?_
    refine XS.icmpNo X4.here hx rfl (hb hby d33_13) rfl (tlt (by decide : (1 : Int32) < 2)).2.1 ?_
    show Steps _ _ _ (State.setTop _ (mkF m 16 #[rv st_, iv 0, iv c0] [])) _
    refine XS.iloadN X4.here hx rfl (hb hby d33_16) rfl ?_
    refine XS.aloadN X4.here hx rfl (hb hby d33_17) rfl rfl ?_
    refine XS.iloadN X4.here hx rfl (hb hby d33_18) rfl ?_
    refine XS.iconst X4.here hx rfl (hb hby d33_19) ?_
    refine XS.iadd X4.here hx rfl (hb hby d33_20) rfl ?_
    refine st7.trans ?_
    refine XS.bipush X7.here hx rfl (hb hby d33_24) ?_
    refine XS.ishl X7.here hx rfl (hb hby d33_26) rfl ?_
    refine XS.ior X7.here hx rfl (hb hby d33_27) rfl ?_
    show Steps _ _ _ (State.setTop _ (mkF m 28 #[rv st_, iv 0, iv c0] [(.int (c0 ||| (c1 <<< ((16 : Int32) &&& 31))))])) _
    refine XS.istoreN X7.here hx rfl (hb hby d33_28) rfl (l' := #[rv st_, iv 0, iv (c0 ||| (c1 <<< ((16 : Int32) &&& 31)))]) rfl ?_
    refine XS.iloadN X7.here hx rfl (hb hby d33_29) rfl ?_
    show Steps _ _ _ (State.setTop _ (mkF m 30 #[rv st_, iv 0, iv (c0 ||| (c1 <<< ((16 : Int32) &&& 31)))] [(.int (c0 ||| (c1 <<< ((16 : Int32) &&& 31))))])) _
    exact retI X7 hx Bd.returns (hb hby d33_30) hr
  · show Q_wd_2 Z _ _ _ _ _ _ h0 n0 _ T7.heap _
    rw [K7q]
    exact ⟨rfl, N0, rfl⟩
theorem d32_0 : decode prog_25_method_33_code 0 = .ok (.iload_n 0, 1) := by decide +kernel
theorem d32_1 : decode prog_25_method_33_code 1 = .ok (.aload_n 1, 1) := by decide +kernel
theorem d32_2 : decode prog_25_method_33_code 2 = .ok (.invokevirtual 144, 3) := by decide +kernel
theorem d32_5 : decode prog_25_method_33_code 5 = .ok (.ixor, 1) := by decide +kernel
theorem d32_6 : decode prog_25_method_33_code 6 = .ok (.istore_n 2, 1) := by decide +kernel
theorem d32_7 : decode prog_25_method_33_code 7 = .ok (.iconst 0, 1) := by decide +kernel
theorem d32_8 : decode prog_25_method_33_code 8 = .ok (.istore_n 3, 1) := by decide +kernel
theorem d32_9 : decode prog_25_method_33_code 9 = .ok (.iload_n 3, 1) := by decide +kernel
theorem d32_10 : decode prog_25_method_33_code 10 = .ok (.aload_n 1, 1) := by decide +kernel
theorem d32_11 : decode prog_25_method_33_code 11 = .ok (.invokevirtual 144, 3) := by decide +kernel
theorem d32_14 : decode prog_25_method_33_code 14 = .ok (.if_icmp .ge 27, 3) := by decide +kernel
theorem d32_17 : decode prog_25_method_33_code 17 = .ok (.iload_n 2, 1) := by decide +kernel
theorem d32_18 : decode prog_25_method_33_code 18 = .ok (.aload_n 1, 1) := by decide +kernel
theorem d32_19 : decode prog_25_method_33_code 19 = .ok (.iload_n 3, 1) := by decide +kernel
theorem pd_28 : parseMethodDescriptor "(Ljava/lang/String;I)I" = some ⟨[(.object "java/lang/String"), .int], some .int⟩ := by decide +kernel
theorem d32_20 : decode prog_25_method_33_code 20 = .ok (.invokestatic 149, 3) := by decide +kernel
theorem d32_23 : decode prog_25_method_33_code 23 = .ok (.ixor, 1) := by decide +kernel
theorem d32_24 : decode prog_25_method_33_code 24 = .ok (.ldc 164, 2) := by decide +kernel
theorem d32_26 : decode prog_25_method_33_code 26 = .ok (.imul, 1) := by decide +kernel
theorem d32_27 : decode prog_25_method_33_code 27 = .ok (.istore_n 2, 1) := by decide +kernel
theorem d32_28 : decode prog_25_method_33_code 28 = .ok (.iload_n 2, 1) := by decide +kernel
theorem d32_29 : decode prog_25_method_33_code 29 = .ok (.iload_n 2, 1) := by decide +kernel
theorem d32_30 : decode prog_25_method_33_code 30 = .ok (.bipush 15, 2) := by decide +kernel
theorem d32_32 : decode prog_25_method_33_code 32 = .ok (.iushr, 1) := by decide +kernel
theorem d32_33 : decode prog_25_method_33_code 33 = .ok (.ixor, 1) := by decide +kernel
theorem d32_34 : decode prog_25_method_33_code 34 = .ok (.istore_n 2, 1) := by decide +kernel
theorem d32_35 : decode prog_25_method_33_code 35 = .ok (.iinc 3 2, 3) := by decide +kernel
theorem d32_38 : decode prog_25_method_33_code 38 = .ok (.goto (-29), 3) := by decide +kernel
theorem d32_41 : decode prog_25_method_33_code 41 = .ok (.iload_n 2, 1) := by decide +kernel
theorem d32_42 : decode prog_25_method_33_code 42 = .ok (.ldc 164, 2) := by decide +kernel
theorem d32_44 : decode prog_25_method_33_code 44 = .ok (.imul, 1) := by decide +kernel
theorem d32_45 : decode prog_25_method_33_code 45 = .ok (.ireturn, 1) := by decide +kernel
theorem ef_mx_1 (m : MethodId) (x0 : Int32) (x1 : Addr) : entryFrame m #[(.int x0), (.ref x1)] 4 = mkF m 0 #[iv x0, rv x1, .unset, .unset] [] := by first | (simp [entryFrame, mkF, argsToLocals, Value.category]; done) | rfl
def Q_mx_1 (Z : State) (hq_ : Int32) (st_ sv_ : Addr) (c0 cs : Int32) (fm : Value) (h0 : Heap) (n0 : Nat) (v : Option Value) (h : Heap) (L : List Loc) : Prop := v = some (.int (own_mix hq_ (1 : Int32) c0)) ∧ Fr n0 L ∧ h = h0
set_option maxRecDepth 65536 in
set_option maxHeartbeats 40000000 in
theorem mx_1 (l : Launch) (Z : State) (a0 : Array Value) (hw : ∀ d ∈ tables_1, d.before a0 Z = true) (ws : List Jvm.Cond) (hq_ : Int32) (st_ sv_ : Addr) (c0 cs : Int32) (fm : Value) (h0 : Heap) (n0 : Nat) (Z0 : n0 ≤ h0.size) (pf_O : Old Z n0 h0) (pS_COMPAC : Sta Z Z.heap "java/lang/String" "COMPACT_STRINGS" "Z" (.int cs)) (hcs : ¬ (cs = 0)) (pS_SIOOBE : Sta Z Z.heap "jdk/internal/util/Preconditions" "SIOOBE_FORMATTER" "Ljava/util/function/BiFunction;" fm) (rfm : fm.isRef = true) (pf_E_st_ : Exa Z h0 st_ "java/lang/String") (pf_F_st__value : Fld Z h0 st_ "java/lang/String" "value" "[B" (.ref sv_)) (pf_F_st__coder : Fld Z h0 st_ "java/lang/String" "coder" "B" (.int 0)) (pf_A_sv_ : Av Z h0 sv_ .byte (1 : Int32) (own_vs [c0]) (.int 0)) (hrA : ∀ c ∈ ([c0] : List Int32), ¬ c < 0 ∧ ¬ (255 : Int32) < c) :
    MetFree l MN32 (head1 (Jvm.Cond.code MN32 prog_25_method_33_code 4 (some .int) :: ws) (Room.mk 5 0 0 68)) (fun a U => a = #[(.int hq_), (.ref st_)] ∧ Z.Warmed39 U.vm ∧ U.heap = h0) (fun _ _ _ _ _ => True) (fun _ U o U' => ∃ v L, o = .returned v ∧ Q_mx_1 Z hq_ st_ sv_ c0 cs fm h0 n0 v U'.heap L ∧ FrameEnd U o U' L (Room.mk 5 0 0 68).cells (Room.mk 5 0 0 68).slots) := by
  refine MetFree.of_bodySF (plainFor_of_name pn_com_example_arbiter_arbiter_OrdinalTable) hisR ?_
  intro p e s m args below meth c s₁ Bd hml0 hP hK
  obtain ⟨rfl, hZ, hh⟩ := hP
  have hx := Bd.exec
  have hby := Bd.bytes
  have hml : c.maxLocals = 4 := hml0
  have hown : s.vm.findClass "com/example/arbiter/arbiter/OrdinalTable" = some m.cls := findClass_of_methodNamed Bd.named
  have hnm := (name_of_methodNamed Bd.named Bd.method).1
  have X0 : Stand p l e (Room.mk 5 0 0 68) s m #[(.int hq_), (.ref st_)] below meth c s₁ [] 0 0 := Stand.of_body Bd
  have e0 : s₁.heap = h0 := by rw [← hh, Bd.state]; rfl
  have N0 := Fr.nil n0
  have pre0 : ∀ t, Steps p.tables e below (s₁.setTop (mkF m 0 #[iv hq_, rv st_, .unset, .unset] [])) t → Steps p.tables e below (s₁.setTop (entryFrame m #[(.int hq_), (.ref st_)] 4)) t := fun t k => castTop (ef_mx_1 m hq_ st_) k
  have wo17 := hw _ (own_m 17 rfl)
  have wo50 := hw _ (own_m 50 rfl)
  have wo51 := hw _ (own_m 51 rfl)
  have wo52 := hw _ (own_m 52 rfl)
  have wo123 := hw _ (own_m 123 rfl)
  have wo161 := hw _ (own_m 161 rfl)
  have wo162 := hw _ (own_m 162 rfl)
  have wo163 := hw _ (own_m 163 rfl)
  have wo164 := hw _ (own_m 164 rfl)
  have wo166 := hw _ (own_m 166 rfl)
  obtain ⟨kv2, hv3⟩ := id pf_A_sv_
  have hws1 : ∀ d ∈ StrChars.Road.wordsLen, d.before a0 Z = true := fun d hd => hw d ((by decide +kernel : ∀ d ∈ StrChars.Road.wordsLen, d ∈ tables_1) d hd)
  obtain ⟨cq1, kq1, q1a, q1b, q1c⟩ := isOf hZ e0 pf_E_st_
  obtain ⟨_, _, ⟨T1, L1, k1, n1⟩, -, X1, ⟨Lc1, hQ1, l1, y1, z1⟩, st1⟩ := X0.virtualBack hx (y := MN10) (z := MN10) hown (mvT hZ wo161) (mvT hZ wo50) (notFace_of_selects (args := #[]) (mvT hZ wo52)) (mvT hZ wo52) (mvT hZ wo51) (by decide) (StrChars.Road.lenW (W := 1) hZ hws1 (kI := 4) wo17 pf_E_st_ pf_F_st__value pf_F_st__coder hv3 (own_cod (by rfl) hrA) (own_wid hrA) (pS_COMPAC.ext pf_O.2) hcs (Nat.le_of_ble_eq_true rfl) (by decide) (by decide)) q1a q1c (g := (mkF m 2 #[iv hq_, rv st_, .unset, .unset] [(.ref st_), (.int hq_)])) rfl (by rw [hml]; rfl) (Steps.refl _) (argsL := []) (rest := [(.int hq_)]) (lenOf pd_1 rfl) rfl (by show 2 * 0 + _ ≤ _; exact Nat.le_of_eq rfl) (hb hby d32_2) (fun _ _ => ⟨rfl, e0, (by decide : 0 + 0 ≤ _), (by decide : 0 + 0 ≤ _)⟩)
  dsimp only [Pt.U, Pt.locs, Pt.cells, Pt.slots] at X1 l1 y1 z1 st1 hQ1
  rw [l1, y1, z1] at X1
  obtain ⟨rfl, hl1, K1q⟩ := hQ1
  rw [hl1, List.append_nil] at X1
  obtain ⟨kv5, hv6⟩ := id pf_A_sv_
  have hws4 : ∀ d ∈ StrChars.Road.wordsLen, d.before a0 Z = true := fun d hd => hw d ((by decide +kernel : ∀ d ∈ StrChars.Road.wordsLen, d ∈ tables_1) d hd)
  obtain ⟨cq4, kq4, q4a, q4b, q4c⟩ := isOf hZ K1q pf_E_st_
  obtain ⟨_, _, ⟨T4, L4, k4, n4⟩, -, X4, ⟨Lc4, hQ4, l4, y4, z4⟩, st4⟩ := X1.virtualBack hx (y := MN10) (z := MN10) hown (mvT hZ wo161) (mvT hZ wo50) (notFace_of_selects (args := #[]) (mvT hZ wo52)) (mvT hZ wo52) (mvT hZ wo51) (by decide) (StrChars.Road.lenW (W := 1) hZ hws4 (kI := 4) wo17 pf_E_st_ pf_F_st__value pf_F_st__coder hv6 (own_cod (by rfl) hrA) (own_wid hrA) (pS_COMPAC.ext pf_O.2) hcs (Nat.le_of_ble_eq_true rfl) (by decide) (by decide)) q4a q4c (g := (mkF m 11 #[iv hq_, rv st_, iv (hq_ ^^^ 1), iv 0] [(.ref st_), (.int 0)])) rfl (by rw [hml]; rfl) (Steps.refl _) (argsL := []) (rest := [(.int 0)]) (lenOf pd_1 rfl) rfl (by show 2 * 0 + _ ≤ _; exact Nat.le_of_eq rfl) (hb hby d32_11) (fun _ _ => ⟨rfl, K1q, (by decide : 0 + 0 ≤ _), (by decide : 0 + 0 ≤ _)⟩)
  dsimp only [Pt.U, Pt.locs, Pt.cells, Pt.slots] at X4 l4 y4 z4 st4 hQ4
  rw [l4, y4, z4] at X4
  obtain ⟨rfl, hl4, K4q⟩ := hQ4
  rw [hl4, List.append_nil] at X4
  obtain ⟨_, _, ⟨T7, L7, k7, n7⟩, -, X7, ⟨Lc7, hQ7, l7, y7, z7⟩, st7⟩ := Jvm.LawKit.callS X4 hx (y := MN33) hown (mvT hZ wo162) (mvT hZ wo163) (mvT hZ wo123) (mvT hZ wo164) (by decide) (backOf (W := 1) (wd_1 l Z a0 hw [] st_ sv_ c0 cs fm h0 n0 Z0 pf_O pS_COMPAC hcs pS_SIOOBE rfm pf_E_st_ pf_F_st__value pf_F_st__coder pf_A_sv_ hrA) hZ wo164 wo123 (by decide) (by decide)) (g := (mkF m 20 #[iv hq_, rv st_, iv (hq_ ^^^ 1), iv 0] [(.int 0), (.ref st_), (.int (hq_ ^^^ 1))])) rfl (by rw [hml]; rfl) (argsL := [(.ref st_), (.int 0)]) (rest := [(.int (hq_ ^^^ 1))]) (lenOf pd_28 rfl) rfl (by show 2 * 0 + _ ≤ _; exact Nat.le_of_eq rfl) (hb hby d32_20) (fun _ _ => ⟨rfl, K4q, (by decide : 0 + 0 ≤ _), (by decide : 0 + 0 ≤ _)⟩)
  dsimp only [Pt.U, Pt.locs, Pt.cells, Pt.slots] at X7 l7 y7 z7 st7 hQ7
  rw [l7, y7, z7] at X7
  obtain ⟨rfl, N7q, K7q⟩ := hQ7
  have N8 := Fr.app N0 N7q
  obtain ⟨kv10, hv11⟩ := id pf_A_sv_
  have hws9 : ∀ d ∈ StrChars.Road.wordsLen, d.before a0 Z = true := fun d hd => hw d ((by decide +kernel : ∀ d ∈ StrChars.Road.wordsLen, d ∈ tables_1) d hd)
  obtain ⟨cq9, kq9, q9a, q9b, q9c⟩ := isOf hZ K7q pf_E_st_
  obtain ⟨_, _, ⟨T9, L9, k9, n9⟩, -, X9, ⟨Lc9, hQ9, l9, y9, z9⟩, st9⟩ := X7.virtualBack hx (y := MN10) (z := MN10) hown (mvT hZ wo161) (mvT hZ wo50) (notFace_of_selects (args := #[]) (mvT hZ wo52)) (mvT hZ wo52) (mvT hZ wo51) (by decide) (StrChars.Road.lenW (W := 1) hZ hws9 (kI := 4) wo17 pf_E_st_ pf_F_st__value pf_F_st__coder hv11 (own_cod (by rfl) hrA) (own_wid hrA) (pS_COMPAC.ext pf_O.2) hcs (Nat.le_of_ble_eq_true rfl) (by decide) (by decide)) q9a q9c (g := (mkF m 11 #[iv hq_, rv st_, iv ((((hq_ ^^^ 1) ^^^ c0) * (-1640531535 : Int32)) ^^^ (((((hq_ ^^^ 1) ^^^ c0) * (-1640531535 : Int32)).toUInt32 >>> ((15 : Int32) &&& 31).toUInt32).toInt32)), iv 2] [(.ref st_), (.int 2)])) rfl (by rw [hml]; rfl) (Steps.refl _) (argsL := []) (rest := [(.int 2)]) (lenOf pd_1 rfl) rfl (by show 2 * 0 + _ ≤ _; exact Nat.le_of_eq rfl) (hb hby d32_11) (fun _ _ => ⟨rfl, K7q, (by decide : 0 + 0 ≤ _), (by decide : 0 + 0 ≤ _)⟩)
  dsimp only [Pt.U, Pt.locs, Pt.cells, Pt.slots] at X9 l9 y9 z9 st9 hQ9
  rw [l9, y9, z9] at X9
  obtain ⟨rfl, hl9, K9q⟩ := hQ9
  rw [hl9, List.append_nil] at X9
  obtain ⟨fs, hr, hrun, hended, hW, hsame⟩ := X9.leave (v := some (.int (((((hq_ ^^^ 1) ^^^ c0) * (-1640531535 : Int32)) ^^^ (((((hq_ ^^^ 1) ^^^ c0) * (-1640531535 : Int32)).toUInt32 >>> ((15 : Int32) &&& 31).toUInt32).toInt32)) * (-1640531535 : Int32)))) (fun h => by rw [Bd.returns] at h; cases h)
  refine ⟨_, _, pre0 _ ?_, hrun, hended, _, _, rfl, ?_, ⟨_, rfl⟩, hW, hsame.mono (by decide) (by decide)⟩
  · show Steps _ _ _ (State.setTop _ (mkF m 0 #[iv hq_, rv st_, .unset, .unset] [])) _
    refine XS.iloadN X0.here hx rfl (hb hby d32_0) rfl ?_
    show Steps _ _ _ (State.setTop _ (mkF m 1 #[iv hq_, rv st_, .unset, .unset] [(.int hq_)])) _
    refine XS.aloadN X0.here hx rfl (hb hby d32_1) rfl rfl ?_
    refine st1.trans ?_
    refine XS.ixor X1.here hx rfl (hb hby d32_5) rfl ?_
    refine XS.istoreN X1.here hx rfl (hb hby d32_6) rfl (l' := #[iv hq_, rv st_, iv (hq_ ^^^ 1), .unset]) rfl ?_
    refine XS.iconst X1.here hx rfl (hb hby d32_7) ?_
    refine XS.istoreN X1.here hx rfl (hb hby d32_8) rfl (l' := #[iv hq_, rv st_, iv (hq_ ^^^ 1), iv 0]) rfl ?_
    refine XS.iloadN X1.here hx rfl (hb hby d32_9) rfl ?_
    refine XS.aloadN X1.here hx rfl (hb hby d32_10) rfl rfl ?_
    refine st4.trans ?_
    show Steps _ _ _ (State.setTop _ (mkF m 14 #[iv hq_, rv st_, iv (hq_ ^^^ 1), iv 0] [(.int 1), (.int 0)])) _
    refine XS.icmpNo X4.here hx rfl (hb hby d32_14) rfl (tlt (by decide : (0 : Int32) < 1)).2.1 ?_
    refine XS.iloadN X4.here hx rfl (hb hby d32_17) rfl ?_
    refine XS.aloadN X4.here hx rfl (hb hby d32_18) rfl rfl ?_
    refine XS.iloadN X4.here hx rfl (hb hby d32_19) rfl ?_
    refine st7 _ ?_
    refine XS.ixor X7.here hx rfl (hb hby d32_23) rfl ?_
    refine X7.ldcInt hx hown (mvT hZ wo166) (g := (mkF m 24 #[iv hq_, rv st_, iv (hq_ ^^^ 1), iv 0] [(.int ((hq_ ^^^ 1) ^^^ c0))])) rfl (hb hby d32_24) _ ?_
    refine XS.imul X7.here hx rfl (hb hby d32_26) rfl ?_
    refine XS.istoreN X7.here hx rfl (hb hby d32_27) rfl (l' := #[iv hq_, rv st_, iv (((hq_ ^^^ 1) ^^^ c0) * (-1640531535 : Int32)), iv 0]) rfl ?_
    show Steps _ _ _ (State.setTop _ (mkF m 28 #[iv hq_, rv st_, iv (((hq_ ^^^ 1) ^^^ c0) * (-1640531535 : Int32)), iv 0] [])) _
    refine XS.iloadN X7.here hx rfl (hb hby d32_28) rfl ?_
    refine XS.iloadN X7.here hx rfl (hb hby d32_29) rfl ?_
    refine XS.bipush X7.here hx rfl (hb hby d32_30) ?_
    refine XS.iushr X7.here hx rfl (hb hby d32_32) rfl ?_
    refine XS.ixor X7.here hx rfl (hb hby d32_33) rfl ?_
    refine XS.istoreN X7.here hx rfl (hb hby d32_34) rfl (l' := #[iv hq_, rv st_, iv ((((hq_ ^^^ 1) ^^^ c0) * (-1640531535 : Int32)) ^^^ (((((hq_ ^^^ 1) ^^^ c0) * (-1640531535 : Int32)).toUInt32 >>> ((15 : Int32) &&& 31).toUInt32).toInt32)), iv 0]) rfl ?_
    refine XS.iinc X7.here hx rfl (hb hby d32_35) rfl (l' := #[iv hq_, rv st_, iv ((((hq_ ^^^ 1) ^^^ c0) * (-1640531535 : Int32)) ^^^ (((((hq_ ^^^ 1) ^^^ c0) * (-1640531535 : Int32)).toUInt32 >>> ((15 : Int32) &&& 31).toUInt32).toInt32)), iv 2]) rfl ?_
    refine XS.goto X7.here hx rfl (pc0 := 38) (pc' := 9) rfl (hb hby d32_38) (by decide) (by decide) ?_
    refine XS.iloadN X7.here hx rfl (hb hby d32_9) rfl ?_
    show Steps _ _ _ (State.setTop _ (mkF m 10 #[iv hq_, rv st_, iv ((((hq_ ^^^ 1) ^^^ c0) * (-1640531535 : Int32)) ^^^ (((((hq_ ^^^ 1) ^^^ c0) * (-1640531535 : Int32)).toUInt32 >>> ((15 : Int32) &&& 31).toUInt32).toInt32)), iv 2] [(.int 2)])) _
    refine XS.aloadN X7.here hx rfl (hb hby d32_10) rfl rfl ?_
    refine st9.trans ?_
    refine XS.icmpYes X9.here hx rfl (pc0 := 14) (pc' := 41) rfl (hb hby d32_14) rfl (flt (by decide : ¬ ((2 : Int32) < 1))).2.1 (by decide) (by decide) ?_
    refine XS.iloadN X9.here hx rfl (hb hby d32_41) rfl ?_
    refine X9.ldcInt hx hown (mvT hZ wo166) (g := (mkF m 42 #[iv hq_, rv st_, iv ((((hq_ ^^^ 1) ^^^ c0) * (-1640531535 : Int32)) ^^^ (((((hq_ ^^^ 1) ^^^ c0) * (-1640531535 : Int32)).toUInt32 >>> ((15 : Int32) &&& 31).toUInt32).toInt32)), iv 2] [(.int ((((hq_ ^^^ 1) ^^^ c0) * (-1640531535 : Int32)) ^^^ (((((hq_ ^^^ 1) ^^^ c0) * (-1640531535 : Int32)).toUInt32 >>> ((15 : Int32) &&& 31).toUInt32).toInt32)))])) rfl (hb hby d32_42) _ ?_
    refine XS.imul X9.here hx rfl (hb hby d32_44) rfl ?_
    show Steps _ _ _ (State.setTop _ (mkF m 45 #[iv hq_, rv st_, iv ((((hq_ ^^^ 1) ^^^ c0) * (-1640531535 : Int32)) ^^^ (((((hq_ ^^^ 1) ^^^ c0) * (-1640531535 : Int32)).toUInt32 >>> ((15 : Int32) &&& 31).toUInt32).toInt32)), iv 2] [(.int (((((hq_ ^^^ 1) ^^^ c0) * (-1640531535 : Int32)) ^^^ (((((hq_ ^^^ 1) ^^^ c0) * (-1640531535 : Int32)).toUInt32 >>> ((15 : Int32) &&& 31).toUInt32).toInt32)) * (-1640531535 : Int32)))])) _
    exact retI X9 hx Bd.returns (hb hby d32_45) hr
  · show Q_mx_1 Z _ _ _ _ _ _ h0 n0 _ T9.heap _
    rw [K9q]
    exact ⟨rfl, N8, rfl⟩
theorem ef_mx_2 (m : MethodId) (x0 : Int32) (x1 : Addr) : entryFrame m #[(.int x0), (.ref x1)] 4 = mkF m 0 #[iv x0, rv x1, .unset, .unset] [] := by first | (simp [entryFrame, mkF, argsToLocals, Value.category]; done) | rfl
def Q_mx_2 (Z : State) (hq_ : Int32) (st_ sv_ : Addr) (c0 c1 cs : Int32) (fm : Value) (h0 : Heap) (n0 : Nat) (v : Option Value) (h : Heap) (L : List Loc) : Prop := v = some (.int (own_mix hq_ (2 : Int32) (c0 ||| (c1 <<< ((16 : Int32) &&& 31))))) ∧ Fr n0 L ∧ h = h0
set_option maxRecDepth 65536 in
set_option maxHeartbeats 40000000 in
theorem mx_2 (l : Launch) (Z : State) (a0 : Array Value) (hw : ∀ d ∈ tables_1, d.before a0 Z = true) (ws : List Jvm.Cond) (hq_ : Int32) (st_ sv_ : Addr) (c0 c1 cs : Int32) (fm : Value) (h0 : Heap) (n0 : Nat) (Z0 : n0 ≤ h0.size) (pf_O : Old Z n0 h0) (pS_COMPAC : Sta Z Z.heap "java/lang/String" "COMPACT_STRINGS" "Z" (.int cs)) (hcs : ¬ (cs = 0)) (pS_SIOOBE : Sta Z Z.heap "jdk/internal/util/Preconditions" "SIOOBE_FORMATTER" "Ljava/util/function/BiFunction;" fm) (rfm : fm.isRef = true) (pf_E_st_ : Exa Z h0 st_ "java/lang/String") (pf_F_st__value : Fld Z h0 st_ "java/lang/String" "value" "[B" (.ref sv_)) (pf_F_st__coder : Fld Z h0 st_ "java/lang/String" "coder" "B" (.int 0)) (pf_A_sv_ : Av Z h0 sv_ .byte (2 : Int32) (own_vs [c0, c1]) (.int 0)) (hrA : ∀ c ∈ ([c0, c1] : List Int32), ¬ c < 0 ∧ ¬ (255 : Int32) < c) :
    MetFree l MN32 (head1 (Jvm.Cond.code MN32 prog_25_method_33_code 4 (some .int) :: ws) (Room.mk 5 0 0 69)) (fun a U => a = #[(.int hq_), (.ref st_)] ∧ Z.Warmed39 U.vm ∧ U.heap = h0) (fun _ _ _ _ _ => True) (fun _ U o U' => ∃ v L, o = .returned v ∧ Q_mx_2 Z hq_ st_ sv_ c0 c1 cs fm h0 n0 v U'.heap L ∧ FrameEnd U o U' L (Room.mk 5 0 0 69).cells (Room.mk 5 0 0 69).slots) := by
  refine MetFree.of_bodySF (plainFor_of_name pn_com_example_arbiter_arbiter_OrdinalTable) hisR ?_
  intro p e s m args below meth c s₁ Bd hml0 hP hK
  obtain ⟨rfl, hZ, hh⟩ := hP
  have hx := Bd.exec
  have hby := Bd.bytes
  have hml : c.maxLocals = 4 := hml0
  have hown : s.vm.findClass "com/example/arbiter/arbiter/OrdinalTable" = some m.cls := findClass_of_methodNamed Bd.named
  have hnm := (name_of_methodNamed Bd.named Bd.method).1
  have X0 : Stand p l e (Room.mk 5 0 0 69) s m #[(.int hq_), (.ref st_)] below meth c s₁ [] 0 0 := Stand.of_body Bd
  have e0 : s₁.heap = h0 := by rw [← hh, Bd.state]; rfl
  have N0 := Fr.nil n0
  have pre0 : ∀ t, Steps p.tables e below (s₁.setTop (mkF m 0 #[iv hq_, rv st_, .unset, .unset] [])) t → Steps p.tables e below (s₁.setTop (entryFrame m #[(.int hq_), (.ref st_)] 4)) t := fun t k => castTop (ef_mx_2 m hq_ st_) k
  have wo17 := hw _ (own_m 17 rfl)
  have wo50 := hw _ (own_m 50 rfl)
  have wo51 := hw _ (own_m 51 rfl)
  have wo52 := hw _ (own_m 52 rfl)
  have wo123 := hw _ (own_m 123 rfl)
  have wo161 := hw _ (own_m 161 rfl)
  have wo162 := hw _ (own_m 162 rfl)
  have wo163 := hw _ (own_m 163 rfl)
  have wo164 := hw _ (own_m 164 rfl)
  have wo166 := hw _ (own_m 166 rfl)
  obtain ⟨kv2, hv3⟩ := id pf_A_sv_
  have hws1 : ∀ d ∈ StrChars.Road.wordsLen, d.before a0 Z = true := fun d hd => hw d ((by decide +kernel : ∀ d ∈ StrChars.Road.wordsLen, d ∈ tables_1) d hd)
  obtain ⟨cq1, kq1, q1a, q1b, q1c⟩ := isOf hZ e0 pf_E_st_
  obtain ⟨_, _, ⟨T1, L1, k1, n1⟩, -, X1, ⟨Lc1, hQ1, l1, y1, z1⟩, st1⟩ := X0.virtualBack hx (y := MN10) (z := MN10) hown (mvT hZ wo161) (mvT hZ wo50) (notFace_of_selects (args := #[]) (mvT hZ wo52)) (mvT hZ wo52) (mvT hZ wo51) (by decide) (StrChars.Road.lenW (W := 1) hZ hws1 (kI := 4) wo17 pf_E_st_ pf_F_st__value pf_F_st__coder hv3 (own_cod (by rfl) hrA) (own_wid hrA) (pS_COMPAC.ext pf_O.2) hcs (Nat.le_of_ble_eq_true rfl) (by decide) (by decide)) q1a q1c (g := (mkF m 2 #[iv hq_, rv st_, .unset, .unset] [(.ref st_), (.int hq_)])) rfl (by rw [hml]; rfl) (Steps.refl _) (argsL := []) (rest := [(.int hq_)]) (lenOf pd_1 rfl) rfl (by show 2 * 0 + _ ≤ _; exact Nat.le_of_eq rfl) (hb hby d32_2) (fun _ _ => ⟨rfl, e0, (by decide : 0 + 0 ≤ _), (by decide : 0 + 0 ≤ _)⟩)
  dsimp only [Pt.U, Pt.locs, Pt.cells, Pt.slots] at X1 l1 y1 z1 st1 hQ1
  rw [l1, y1, z1] at X1
  obtain ⟨rfl, hl1, K1q⟩ := hQ1
  rw [hl1, List.append_nil] at X1
  obtain ⟨kv5, hv6⟩ := id pf_A_sv_
  have hws4 : ∀ d ∈ StrChars.Road.wordsLen, d.before a0 Z = true := fun d hd => hw d ((by decide +kernel : ∀ d ∈ StrChars.Road.wordsLen, d ∈ tables_1) d hd)
  obtain ⟨cq4, kq4, q4a, q4b, q4c⟩ := isOf hZ K1q pf_E_st_
  obtain ⟨_, _, ⟨T4, L4, k4, n4⟩, -, X4, ⟨Lc4, hQ4, l4, y4, z4⟩, st4⟩ := X1.virtualBack hx (y := MN10) (z := MN10) hown (mvT hZ wo161) (mvT hZ wo50) (notFace_of_selects (args := #[]) (mvT hZ wo52)) (mvT hZ wo52) (mvT hZ wo51) (by decide) (StrChars.Road.lenW (W := 1) hZ hws4 (kI := 4) wo17 pf_E_st_ pf_F_st__value pf_F_st__coder hv6 (own_cod (by rfl) hrA) (own_wid hrA) (pS_COMPAC.ext pf_O.2) hcs (Nat.le_of_ble_eq_true rfl) (by decide) (by decide)) q4a q4c (g := (mkF m 11 #[iv hq_, rv st_, iv (hq_ ^^^ 2), iv 0] [(.ref st_), (.int 0)])) rfl (by rw [hml]; rfl) (Steps.refl _) (argsL := []) (rest := [(.int 0)]) (lenOf pd_1 rfl) rfl (by show 2 * 0 + _ ≤ _; exact Nat.le_of_eq rfl) (hb hby d32_11) (fun _ _ => ⟨rfl, K1q, (by decide : 0 + 0 ≤ _), (by decide : 0 + 0 ≤ _)⟩)
  dsimp only [Pt.U, Pt.locs, Pt.cells, Pt.slots] at X4 l4 y4 z4 st4 hQ4
  rw [l4, y4, z4] at X4
  obtain ⟨rfl, hl4, K4q⟩ := hQ4
  rw [hl4, List.append_nil] at X4
  obtain ⟨_, _, ⟨T7, L7, k7, n7⟩, -, X7, ⟨Lc7, hQ7, l7, y7, z7⟩, st7⟩ := Jvm.LawKit.callS X4 hx (y := MN33) hown (mvT hZ wo162) (mvT hZ wo163) (mvT hZ wo123) (mvT hZ wo164) (by decide) (backOf (W := 1) (wd_2 l Z a0 hw [] st_ sv_ c0 c1 cs fm h0 n0 Z0 pf_O pS_COMPAC hcs pS_SIOOBE rfm pf_E_st_ pf_F_st__value pf_F_st__coder pf_A_sv_ hrA) hZ wo164 wo123 (by decide) (by decide)) (g := (mkF m 20 #[iv hq_, rv st_, iv (hq_ ^^^ 2), iv 0] [(.int 0), (.ref st_), (.int (hq_ ^^^ 2))])) rfl (by rw [hml]; rfl) (argsL := [(.ref st_), (.int 0)]) (rest := [(.int (hq_ ^^^ 2))]) (lenOf pd_28 rfl) rfl (by show 2 * 0 + _ ≤ _; exact Nat.le_of_eq rfl) (hb hby d32_20) (fun _ _ => ⟨rfl, K4q, (by decide : 0 + 0 ≤ _), (by decide : 0 + 0 ≤ _)⟩)
  dsimp only [Pt.U, Pt.locs, Pt.cells, Pt.slots] at X7 l7 y7 z7 st7 hQ7
  rw [l7, y7, z7] at X7
  obtain ⟨rfl, N7q, K7q⟩ := hQ7
  have N8 := Fr.app N0 N7q
  obtain ⟨kv10, hv11⟩ := id pf_A_sv_
  have hws9 : ∀ d ∈ StrChars.Road.wordsLen, d.before a0 Z = true := fun d hd => hw d ((by decide +kernel : ∀ d ∈ StrChars.Road.wordsLen, d ∈ tables_1) d hd)
  obtain ⟨cq9, kq9, q9a, q9b, q9c⟩ := isOf hZ K7q pf_E_st_
  obtain ⟨_, _, ⟨T9, L9, k9, n9⟩, -, X9, ⟨Lc9, hQ9, l9, y9, z9⟩, st9⟩ := X7.virtualBack hx (y := MN10) (z := MN10) hown (mvT hZ wo161) (mvT hZ wo50) (notFace_of_selects (args := #[]) (mvT hZ wo52)) (mvT hZ wo52) (mvT hZ wo51) (by decide) (StrChars.Road.lenW (W := 1) hZ hws9 (kI := 4) wo17 pf_E_st_ pf_F_st__value pf_F_st__coder hv11 (own_cod (by rfl) hrA) (own_wid hrA) (pS_COMPAC.ext pf_O.2) hcs (Nat.le_of_ble_eq_true rfl) (by decide) (by decide)) q9a q9c (g := (mkF m 11 #[iv hq_, rv st_, iv ((((hq_ ^^^ 2) ^^^ (c0 ||| (c1 <<< ((16 : Int32) &&& 31)))) * (-1640531535 : Int32)) ^^^ (((((hq_ ^^^ 2) ^^^ (c0 ||| (c1 <<< ((16 : Int32) &&& 31)))) * (-1640531535 : Int32)).toUInt32 >>> ((15 : Int32) &&& 31).toUInt32).toInt32)), iv 2] [(.ref st_), (.int 2)])) rfl (by rw [hml]; rfl) (Steps.refl _) (argsL := []) (rest := [(.int 2)]) (lenOf pd_1 rfl) rfl (by show 2 * 0 + _ ≤ _; exact Nat.le_of_eq rfl) (hb hby d32_11) (fun _ _ => ⟨rfl, K7q, (by decide : 0 + 0 ≤ _), (by decide : 0 + 0 ≤ _)⟩)
  dsimp only [Pt.U, Pt.locs, Pt.cells, Pt.slots] at X9 l9 y9 z9 st9 hQ9
  rw [l9, y9, z9] at X9
  obtain ⟨rfl, hl9, K9q⟩ := hQ9
  rw [hl9, List.append_nil] at X9
  obtain ⟨fs, hr, hrun, hended, hW, hsame⟩ := X9.leave (v := some (.int (((((hq_ ^^^ 2) ^^^ (c0 ||| (c1 <<< ((16 : Int32) &&& 31)))) * (-1640531535 : Int32)) ^^^ (((((hq_ ^^^ 2) ^^^ (c0 ||| (c1 <<< ((16 : Int32) &&& 31)))) * (-1640531535 : Int32)).toUInt32 >>> ((15 : Int32) &&& 31).toUInt32).toInt32)) * (-1640531535 : Int32)))) (fun h => by rw [Bd.returns] at h; cases h)
  refine ⟨_, _, pre0 _ ?_, hrun, hended, _, _, rfl, ?_, ⟨_, rfl⟩, hW, hsame.mono (by decide) (by decide)⟩
  · show Steps _ _ _ (State.setTop _ (mkF m 0 #[iv hq_, rv st_, .unset, .unset] [])) _
    refine XS.iloadN X0.here hx rfl (hb hby d32_0) rfl ?_
    show Steps _ _ _ (State.setTop _ (mkF m 1 #[iv hq_, rv st_, .unset, .unset] [(.int hq_)])) _
    refine XS.aloadN X0.here hx rfl (hb hby d32_1) rfl rfl ?_
    refine st1.trans ?_
    refine XS.ixor X1.here hx rfl (hb hby d32_5) rfl ?_
    refine XS.istoreN X1.here hx rfl (hb hby d32_6) rfl (l' := #[iv hq_, rv st_, iv (hq_ ^^^ 2), .unset]) rfl ?_
    refine XS.iconst X1.here hx rfl (hb hby d32_7) ?_
    refine XS.istoreN X1.here hx rfl (hb hby d32_8) rfl (l' := #[iv hq_, rv st_, iv (hq_ ^^^ 2), iv 0]) rfl ?_
    refine XS.iloadN X1.here hx rfl (hb hby d32_9) rfl ?_
    refine XS.aloadN X1.here hx rfl (hb hby d32_10) rfl rfl ?_
    refine st4.trans ?_
    show Steps _ _ _ (State.setTop _ (mkF m 14 #[iv hq_, rv st_, iv (hq_ ^^^ 2), iv 0] [(.int 2), (.int 0)])) _
    refine XS.icmpNo X4.here hx rfl (hb hby d32_14) rfl (tlt (by decide : (0 : Int32) < 2)).2.1 ?_
    refine XS.iloadN X4.here hx rfl (hb hby d32_17) rfl ?_
    refine XS.aloadN X4.here hx rfl (hb hby d32_18) rfl rfl ?_
    refine XS.iloadN X4.here hx rfl (hb hby d32_19) rfl ?_
    refine st7 _ ?_
    refine XS.ixor X7.here hx rfl (hb hby d32_23) rfl ?_
    refine X7.ldcInt hx hown (mvT hZ wo166) (g := (mkF m 24 #[iv hq_, rv st_, iv (hq_ ^^^ 2), iv 0] [(.int ((hq_ ^^^ 2) ^^^ (c0 ||| (c1 <<< ((16 : Int32) &&& 31)))))])) rfl (hb hby d32_24) _ ?_
    refine XS.imul X7.here hx rfl (hb hby d32_26) rfl ?_
    refine XS.istoreN X7.here hx rfl (hb hby d32_27) rfl (l' := #[iv hq_, rv st_, iv (((hq_ ^^^ 2) ^^^ (c0 ||| (c1 <<< ((16 : Int32) &&& 31)))) * (-1640531535 : Int32)), iv 0]) rfl ?_
    show Steps _ _ _ (State.setTop _ (mkF m 28 #[iv hq_, rv st_, iv (((hq_ ^^^ 2) ^^^ (c0 ||| (c1 <<< ((16 : Int32) &&& 31)))) * (-1640531535 : Int32)), iv 0] [])) _
    refine XS.iloadN X7.here hx rfl (hb hby d32_28) rfl ?_
    refine XS.iloadN X7.here hx rfl (hb hby d32_29) rfl ?_
    refine XS.bipush X7.here hx rfl (hb hby d32_30) ?_
    refine XS.iushr X7.here hx rfl (hb hby d32_32) rfl ?_
    refine XS.ixor X7.here hx rfl (hb hby d32_33) rfl ?_
    refine XS.istoreN X7.here hx rfl (hb hby d32_34) rfl (l' := #[iv hq_, rv st_, iv ((((hq_ ^^^ 2) ^^^ (c0 ||| (c1 <<< ((16 : Int32) &&& 31)))) * (-1640531535 : Int32)) ^^^ (((((hq_ ^^^ 2) ^^^ (c0 ||| (c1 <<< ((16 : Int32) &&& 31)))) * (-1640531535 : Int32)).toUInt32 >>> ((15 : Int32) &&& 31).toUInt32).toInt32)), iv 0]) rfl ?_
    refine XS.iinc X7.here hx rfl (hb hby d32_35) rfl (l' := #[iv hq_, rv st_, iv ((((hq_ ^^^ 2) ^^^ (c0 ||| (c1 <<< ((16 : Int32) &&& 31)))) * (-1640531535 : Int32)) ^^^ (((((hq_ ^^^ 2) ^^^ (c0 ||| (c1 <<< ((16 : Int32) &&& 31)))) * (-1640531535 : Int32)).toUInt32 >>> ((15 : Int32) &&& 31).toUInt32).toInt32)), iv 2]) rfl ?_
    refine XS.goto X7.here hx rfl (pc0 := 38) (pc' := 9) rfl (hb hby d32_38) (by decide) (by decide) ?_
    refine XS.iloadN X7.here hx rfl (hb hby d32_9) rfl ?_
    show Steps _ _ _ (State.setTop _ (mkF m 10 #[iv hq_, rv st_, iv ((((hq_ ^^^ 2) ^^^ (c0 ||| (c1 <<< ((16 : Int32) &&& 31)))) * (-1640531535 : Int32)) ^^^ (((((hq_ ^^^ 2) ^^^ (c0 ||| (c1 <<< ((16 : Int32) &&& 31)))) * (-1640531535 : Int32)).toUInt32 >>> ((15 : Int32) &&& 31).toUInt32).toInt32)), iv 2] [(.int 2)])) _
    refine XS.aloadN X7.here hx rfl (hb hby d32_10) rfl rfl ?_
    refine st9.trans ?_
    refine XS.icmpYes X9.here hx rfl (pc0 := 14) (pc' := 41) rfl (hb hby d32_14) rfl (flt (by decide : ¬ ((2 : Int32) < 2))).2.1 (by decide) (by decide) ?_
    refine XS.iloadN X9.here hx rfl (hb hby d32_41) rfl ?_
    refine X9.ldcInt hx hown (mvT hZ wo166) (g := (mkF m 42 #[iv hq_, rv st_, iv ((((hq_ ^^^ 2) ^^^ (c0 ||| (c1 <<< ((16 : Int32) &&& 31)))) * (-1640531535 : Int32)) ^^^ (((((hq_ ^^^ 2) ^^^ (c0 ||| (c1 <<< ((16 : Int32) &&& 31)))) * (-1640531535 : Int32)).toUInt32 >>> ((15 : Int32) &&& 31).toUInt32).toInt32)), iv 2] [(.int ((((hq_ ^^^ 2) ^^^ (c0 ||| (c1 <<< ((16 : Int32) &&& 31)))) * (-1640531535 : Int32)) ^^^ (((((hq_ ^^^ 2) ^^^ (c0 ||| (c1 <<< ((16 : Int32) &&& 31)))) * (-1640531535 : Int32)).toUInt32 >>> ((15 : Int32) &&& 31).toUInt32).toInt32)))])) rfl (hb hby d32_42) _ ?_
    refine XS.imul X9.here hx rfl (hb hby d32_44) rfl ?_
    show Steps _ _ _ (State.setTop _ (mkF m 45 #[iv hq_, rv st_, iv ((((hq_ ^^^ 2) ^^^ (c0 ||| (c1 <<< ((16 : Int32) &&& 31)))) * (-1640531535 : Int32)) ^^^ (((((hq_ ^^^ 2) ^^^ (c0 ||| (c1 <<< ((16 : Int32) &&& 31)))) * (-1640531535 : Int32)).toUInt32 >>> ((15 : Int32) &&& 31).toUInt32).toInt32)), iv 2] [(.int (((((hq_ ^^^ 2) ^^^ (c0 ||| (c1 <<< ((16 : Int32) &&& 31)))) * (-1640531535 : Int32)) ^^^ (((((hq_ ^^^ 2) ^^^ (c0 ||| (c1 <<< ((16 : Int32) &&& 31)))) * (-1640531535 : Int32)).toUInt32 >>> ((15 : Int32) &&& 31).toUInt32).toInt32)) * (-1640531535 : Int32)))])) _
    exact retI X9 hx Bd.returns (hb hby d32_45) hr
  · show Q_mx_2 Z _ _ _ _ _ _ _ h0 n0 _ T9.heap _
    rw [K9q]
    exact ⟨rfl, N8, rfl⟩
theorem d31_0 : decode prog_25_method_32_code 0 = .ok (.aload_n 0, 1) := by decide +kernel
theorem d31_1 : decode prog_25_method_32_code 1 = .ok (.getfield 37, 3) := by decide +kernel
theorem d31_4 : decode prog_25_method_32_code 4 = .ok (.aload_n 1, 1) := by decide +kernel
theorem pd_18 : parseMethodDescriptor "(ILjava/lang/String;)I" = some ⟨[.int, (.object "java/lang/String")], some .int⟩ := by decide +kernel
theorem d31_5 : decode prog_25_method_32_code 5 = .ok (.invokestatic 160, 3) := by decide +kernel
theorem d31_8 : decode prog_25_method_32_code 8 = .ok (.istore_n 3, 1) := by decide +kernel
theorem d31_9 : decode prog_25_method_32_code 9 = .ok (.aload_n 2, 1) := by decide +kernel
theorem d31_10 : decode prog_25_method_32_code 10 = .ok (.ifnull 9, 3) := by decide +kernel
theorem d31_19 : decode prog_25_method_32_code 19 = .ok (.iload_n 3, 1) := by decide +kernel
theorem d31_20 : decode prog_25_method_32_code 20 = .ok (.iload_n 3, 1) := by decide +kernel
theorem d31_21 : decode prog_25_method_32_code 21 = .ok (.bipush 16, 2) := by decide +kernel
theorem d31_23 : decode prog_25_method_32_code 23 = .ok (.iushr, 1) := by decide +kernel
theorem d31_24 : decode prog_25_method_32_code 24 = .ok (.ixor, 1) := by decide +kernel
theorem d31_25 : decode prog_25_method_32_code 25 = .ok (.istore_n 3, 1) := by decide +kernel
theorem d31_26 : decode prog_25_method_32_code 26 = .ok (.iload_n 3, 1) := by decide +kernel
theorem d31_27 : decode prog_25_method_32_code 27 = .ok (.ldc 163, 2) := by decide +kernel
theorem d31_29 : decode prog_25_method_32_code 29 = .ok (.imul, 1) := by decide +kernel
theorem d31_30 : decode prog_25_method_32_code 30 = .ok (.istore_n 3, 1) := by decide +kernel
theorem d31_31 : decode prog_25_method_32_code 31 = .ok (.iload_n 3, 1) := by decide +kernel
theorem d31_32 : decode prog_25_method_32_code 32 = .ok (.iload_n 3, 1) := by decide +kernel
theorem d31_33 : decode prog_25_method_32_code 33 = .ok (.bipush 13, 2) := by decide +kernel
theorem d31_35 : decode prog_25_method_32_code 35 = .ok (.iushr, 1) := by decide +kernel
theorem d31_36 : decode prog_25_method_32_code 36 = .ok (.ixor, 1) := by decide +kernel
theorem d31_37 : decode prog_25_method_32_code 37 = .ok (.ireturn, 1) := by decide +kernel
theorem ef_ha_1 (m : MethodId) (x0 x1 : Addr) : entryFrame m #[(.ref x0), (.ref x1), .null] 4 = mkF m 0 #[rv x0, rv x1, .val .null, .unset] [] := by first | (simp [entryFrame, mkF, argsToLocals, Value.category]; done) | rfl
def Q_ha_1 (Z : State) (ob : Addr) (sd : Int32) (st_ sv_ : Addr) (c0 cs : Int32) (fm : Value) (h0 : Heap) (n0 : Nat) (v : Option Value) (h : Heap) (L : List Loc) : Prop := v = some (.int (own_hash sd (1 : Int32) c0)) ∧ Fr n0 L ∧ h = h0
set_option maxRecDepth 65536 in
set_option maxHeartbeats 40000000 in
theorem ha_1 (l : Launch) (Z : State) (a0 : Array Value) (hw : ∀ d ∈ tables_1, d.before a0 Z = true) (ws : List Jvm.Cond) (ob : Addr) (sd : Int32) (st_ sv_ : Addr) (c0 cs : Int32) (fm : Value) (h0 : Heap) (n0 : Nat) (Z0 : n0 ≤ h0.size) (pf_O : Old Z n0 h0) (pS_COMPAC : Sta Z Z.heap "java/lang/String" "COMPACT_STRINGS" "Z" (.int cs)) (hcs : ¬ (cs = 0)) (pS_SIOOBE : Sta Z Z.heap "jdk/internal/util/Preconditions" "SIOOBE_FORMATTER" "Ljava/util/function/BiFunction;" fm) (rfm : fm.isRef = true) (pf_E_st_ : Exa Z h0 st_ "java/lang/String") (pf_F_st__value : Fld Z h0 st_ "java/lang/String" "value" "[B" (.ref sv_)) (pf_F_st__coder : Fld Z h0 st_ "java/lang/String" "coder" "B" (.int 0)) (pf_A_sv_ : Av Z h0 sv_ .byte (1 : Int32) (own_vs [c0]) (.int 0)) (hrA : ∀ c ∈ ([c0] : List Int32), ¬ c < 0 ∧ ¬ (255 : Int32) < c) (pf_F_ob_seed : Fld Z h0 ob "com/example/arbiter/arbiter/OrdinalTable" "seed" "I" (.int sd)) :
    MetFree l MN31 (head1 (Jvm.Cond.code MN31 prog_25_method_32_code 4 (some .int) :: ws) (Room.mk 6 0 0 83)) (fun a U => a = #[(.ref ob), (.ref st_), .null] ∧ Z.Warmed39 U.vm ∧ U.heap = h0) (fun _ _ _ _ _ => True) (fun _ U o U' => ∃ v L, o = .returned v ∧ Q_ha_1 Z ob sd st_ sv_ c0 cs fm h0 n0 v U'.heap L ∧ FrameEnd U o U' L (Room.mk 6 0 0 83).cells (Room.mk 6 0 0 83).slots) := by
  refine MetFree.of_bodySF (plainFor_of_name pn_com_example_arbiter_arbiter_OrdinalTable) hisR ?_
  intro p e s m args below meth c s₁ Bd hml0 hP hK
  obtain ⟨rfl, hZ, hh⟩ := hP
  have hx := Bd.exec
  have hby := Bd.bytes
  have hml : c.maxLocals = 4 := hml0
  have hown : s.vm.findClass "com/example/arbiter/arbiter/OrdinalTable" = some m.cls := findClass_of_methodNamed Bd.named
  have hnm := (name_of_methodNamed Bd.named Bd.method).1
  have X0 : Stand p l e (Room.mk 6 0 0 83) s m #[(.ref ob), (.ref st_), .null] below meth c s₁ [] 0 0 := Stand.of_body Bd
  have e0 : s₁.heap = h0 := by rw [← hh, Bd.state]; rfl
  have N0 := Fr.nil n0
  have pre0 : ∀ t, Steps p.tables e below (s₁.setTop (mkF m 0 #[rv ob, rv st_, .val .null, .unset] [])) t → Steps p.tables e below (s₁.setTop (entryFrame m #[(.ref ob), (.ref st_), .null] 4)) t := fun t k => castTop (ef_ha_1 m ob st_) k
  have wo123 := hw _ (own_m 123 rfl)
  have wo138 := hw _ (own_m 138 rfl)
  have wo158 := hw _ (own_m 158 rfl)
  have wo159 := hw _ (own_m 159 rfl)
  have wo160 := hw _ (own_m 160 rfl)
  have wo167 := hw _ (own_m 167 rfl)
  obtain ⟨T1, X1, e1, st1⟩ := getF X0 hx hZ hown (host := "") (Or.inl wo138) Via.refl e0 pf_F_ob_seed (g := (mkF m 1 #[rv ob, rv st_, .val .null, .unset] [(.ref ob)])) rfl rfl (hb hby d31_1)
  obtain ⟨_, _, ⟨T2, L2, k2, n2⟩, -, X2, ⟨Lc2, hQ2, l2, y2, z2⟩, st2⟩ := Jvm.LawKit.callS X1 hx (y := MN32) hown (mvT hZ wo158) (mvT hZ wo159) (mvT hZ wo123) (mvT hZ wo160) (by decide) (backOf (W := 0) (mx_1 l Z a0 hw [] sd st_ sv_ c0 cs fm h0 n0 Z0 pf_O pS_COMPAC hcs pS_SIOOBE rfm pf_E_st_ pf_F_st__value pf_F_st__coder pf_A_sv_ hrA) hZ wo160 wo123 (by decide) (by decide)) (g := (mkF m 5 #[rv ob, rv st_, .val .null, .unset] [(.ref st_), (.int sd)])) rfl (by rw [hml]; rfl) (argsL := [(.int sd), (.ref st_)]) (rest := []) (lenOf pd_18 rfl) rfl (by show 2 * 0 + _ ≤ _; exact Nat.le_of_eq rfl) (hb hby d31_5) (fun _ _ => ⟨rfl, e1, (by decide : 0 + 0 ≤ _), (by decide : 0 + 0 ≤ _)⟩)
  dsimp only [Pt.U, Pt.locs, Pt.cells, Pt.slots] at X2 l2 y2 z2 st2 hQ2
  rw [l2, y2, z2] at X2
  obtain ⟨rfl, N2q, K2q⟩ := hQ2
  have N3 := Fr.app N0 N2q
  obtain ⟨fs, hr, hrun, hended, hW, hsame⟩ := X2.leave (v := some (.int ((((own_mix sd (1 : Int32) c0) ^^^ (((own_mix sd (1 : Int32) c0).toUInt32 >>> ((16 : Int32) &&& 31).toUInt32).toInt32)) * (-2048144789 : Int32)) ^^^ (((((own_mix sd (1 : Int32) c0) ^^^ (((own_mix sd (1 : Int32) c0).toUInt32 >>> ((16 : Int32) &&& 31).toUInt32).toInt32)) * (-2048144789 : Int32)).toUInt32 >>> ((13 : Int32) &&& 31).toUInt32).toInt32)))) (fun h => by rw [Bd.returns] at h; cases h)
  refine ⟨_, _, pre0 _ ?_, hrun, hended, _, _, rfl, ?_, ⟨_, rfl⟩, hW, hsame.mono (by decide) (by decide)⟩
  · show Steps _ _ _ (State.setTop _ (mkF m 0 #[rv ob, rv st_, .val .null, .unset] [])) _
    refine XS.aloadN X0.here hx rfl (hb hby d31_0) rfl rfl ?_
    show Steps _ _ _ (State.setTop _ (mkF m 1 #[rv ob, rv st_, .val .null, .unset] [(.ref ob)])) _
    refine st1 _ ?_
    refine XS.aloadN X1.here hx rfl (hb hby d31_4) rfl rfl ?_
    refine st2 _ ?_
    refine XS.istoreN X2.here hx rfl (hb hby d31_8) rfl (l' := #[rv ob, rv st_, .val .null, iv (own_mix sd (1 : Int32) c0)]) rfl ?_
    refine XS.aloadN X2.here hx rfl (hb hby d31_9) rfl rfl ?_
    refine XS.ifnullYes X2.here hx rfl (pc0 := 10) (pc' := 19) rfl (hb hby d31_10) rfl (by decide) (by decide) ?_
    refine XS.iloadN X2.here hx rfl (hb hby d31_19) rfl ?_
    refine XS.iloadN X2.here hx rfl (hb hby d31_20) rfl ?_
    refine XS.bipush X2.here hx rfl (hb hby d31_21) ?_
    show Steps _ _ _ (State.setTop _ (mkF m 23 #[rv ob, rv st_, .val .null, iv (own_mix sd (1 : Int32) c0)] [(.int 16), (.int (own_mix sd (1 : Int32) c0)), (.int (own_mix sd (1 : Int32) c0))])) _
    refine XS.iushr X2.here hx rfl (hb hby d31_23) rfl ?_
    refine XS.ixor X2.here hx rfl (hb hby d31_24) rfl ?_
    refine XS.istoreN X2.here hx rfl (hb hby d31_25) rfl (l' := #[rv ob, rv st_, .val .null, iv ((own_mix sd (1 : Int32) c0) ^^^ (((own_mix sd (1 : Int32) c0).toUInt32 >>> ((16 : Int32) &&& 31).toUInt32).toInt32))]) rfl ?_
    refine XS.iloadN X2.here hx rfl (hb hby d31_26) rfl ?_
    refine X2.ldcInt hx hown (mvT hZ wo167) (g := (mkF m 27 #[rv ob, rv st_, .val .null, iv ((own_mix sd (1 : Int32) c0) ^^^ (((own_mix sd (1 : Int32) c0).toUInt32 >>> ((16 : Int32) &&& 31).toUInt32).toInt32))] [(.int ((own_mix sd (1 : Int32) c0) ^^^ (((own_mix sd (1 : Int32) c0).toUInt32 >>> ((16 : Int32) &&& 31).toUInt32).toInt32)))])) rfl (hb hby d31_27) _ ?_
    refine XS.imul X2.here hx rfl (hb hby d31_29) rfl ?_
    refine XS.istoreN X2.here hx rfl (hb hby d31_30) rfl (l' := #[rv ob, rv st_, .val .null, iv (((own_mix sd (1 : Int32) c0) ^^^ (((own_mix sd (1 : Int32) c0).toUInt32 >>> ((16 : Int32) &&& 31).toUInt32).toInt32)) * (-2048144789 : Int32))]) rfl ?_
    refine XS.iloadN X2.here hx rfl (hb hby d31_31) rfl ?_
    refine XS.iloadN X2.here hx rfl (hb hby d31_32) rfl ?_
    show Steps _ _ _ (State.setTop _ (mkF m 33 #[rv ob, rv st_, .val .null, iv (((own_mix sd (1 : Int32) c0) ^^^ (((own_mix sd (1 : Int32) c0).toUInt32 >>> ((16 : Int32) &&& 31).toUInt32).toInt32)) * (-2048144789 : Int32))] [(.int (((own_mix sd (1 : Int32) c0) ^^^ (((own_mix sd (1 : Int32) c0).toUInt32 >>> ((16 : Int32) &&& 31).toUInt32).toInt32)) * (-2048144789 : Int32))), (.int (((own_mix sd (1 : Int32) c0) ^^^ (((own_mix sd (1 : Int32) c0).toUInt32 >>> ((16 : Int32) &&& 31).toUInt32).toInt32)) * (-2048144789 : Int32)))])) _
    refine XS.bipush X2.here hx rfl (hb hby d31_33) ?_
    refine XS.iushr X2.here hx rfl (hb hby d31_35) rfl ?_
    refine XS.ixor X2.here hx rfl (hb hby d31_36) rfl ?_
    show Steps _ _ _ (State.setTop _ (mkF m 37 #[rv ob, rv st_, .val .null, iv (((own_mix sd (1 : Int32) c0) ^^^ (((own_mix sd (1 : Int32) c0).toUInt32 >>> ((16 : Int32) &&& 31).toUInt32).toInt32)) * (-2048144789 : Int32))] [(.int ((((own_mix sd (1 : Int32) c0) ^^^ (((own_mix sd (1 : Int32) c0).toUInt32 >>> ((16 : Int32) &&& 31).toUInt32).toInt32)) * (-2048144789 : Int32)) ^^^ (((((own_mix sd (1 : Int32) c0) ^^^ (((own_mix sd (1 : Int32) c0).toUInt32 >>> ((16 : Int32) &&& 31).toUInt32).toInt32)) * (-2048144789 : Int32)).toUInt32 >>> ((13 : Int32) &&& 31).toUInt32).toInt32)))])) _
    exact retI X2 hx Bd.returns (hb hby d31_37) hr
  · show Q_ha_1 Z _ _ _ _ _ _ _ h0 n0 _ T2.heap _
    rw [K2q]
    exact ⟨rfl, N3, rfl⟩
theorem ef_ha_2 (m : MethodId) (x0 x1 : Addr) : entryFrame m #[(.ref x0), (.ref x1), .null] 4 = mkF m 0 #[rv x0, rv x1, .val .null, .unset] [] := by first | (simp [entryFrame, mkF, argsToLocals, Value.category]; done) | rfl
def Q_ha_2 (Z : State) (ob : Addr) (sd : Int32) (st_ sv_ : Addr) (c0 c1 cs : Int32) (fm : Value) (h0 : Heap) (n0 : Nat) (v : Option Value) (h : Heap) (L : List Loc) : Prop := v = some (.int (own_hash sd (2 : Int32) (c0 ||| (c1 <<< ((16 : Int32) &&& 31))))) ∧ Fr n0 L ∧ h = h0
set_option maxRecDepth 65536 in
set_option maxHeartbeats 40000000 in
theorem ha_2 (l : Launch) (Z : State) (a0 : Array Value) (hw : ∀ d ∈ tables_1, d.before a0 Z = true) (ws : List Jvm.Cond) (ob : Addr) (sd : Int32) (st_ sv_ : Addr) (c0 c1 cs : Int32) (fm : Value) (h0 : Heap) (n0 : Nat) (Z0 : n0 ≤ h0.size) (pf_O : Old Z n0 h0) (pS_COMPAC : Sta Z Z.heap "java/lang/String" "COMPACT_STRINGS" "Z" (.int cs)) (hcs : ¬ (cs = 0)) (pS_SIOOBE : Sta Z Z.heap "jdk/internal/util/Preconditions" "SIOOBE_FORMATTER" "Ljava/util/function/BiFunction;" fm) (rfm : fm.isRef = true) (pf_E_st_ : Exa Z h0 st_ "java/lang/String") (pf_F_st__value : Fld Z h0 st_ "java/lang/String" "value" "[B" (.ref sv_)) (pf_F_st__coder : Fld Z h0 st_ "java/lang/String" "coder" "B" (.int 0)) (pf_A_sv_ : Av Z h0 sv_ .byte (2 : Int32) (own_vs [c0, c1]) (.int 0)) (hrA : ∀ c ∈ ([c0, c1] : List Int32), ¬ c < 0 ∧ ¬ (255 : Int32) < c) (pf_F_ob_seed : Fld Z h0 ob "com/example/arbiter/arbiter/OrdinalTable" "seed" "I" (.int sd)) :
    MetFree l MN31 (head1 (Jvm.Cond.code MN31 prog_25_method_32_code 4 (some .int) :: ws) (Room.mk 6 0 0 84)) (fun a U => a = #[(.ref ob), (.ref st_), .null] ∧ Z.Warmed39 U.vm ∧ U.heap = h0) (fun _ _ _ _ _ => True) (fun _ U o U' => ∃ v L, o = .returned v ∧ Q_ha_2 Z ob sd st_ sv_ c0 c1 cs fm h0 n0 v U'.heap L ∧ FrameEnd U o U' L (Room.mk 6 0 0 84).cells (Room.mk 6 0 0 84).slots) := by
  refine MetFree.of_bodySF (plainFor_of_name pn_com_example_arbiter_arbiter_OrdinalTable) hisR ?_
  intro p e s m args below meth c s₁ Bd hml0 hP hK
  obtain ⟨rfl, hZ, hh⟩ := hP
  have hx := Bd.exec
  have hby := Bd.bytes
  have hml : c.maxLocals = 4 := hml0
  have hown : s.vm.findClass "com/example/arbiter/arbiter/OrdinalTable" = some m.cls := findClass_of_methodNamed Bd.named
  have hnm := (name_of_methodNamed Bd.named Bd.method).1
  have X0 : Stand p l e (Room.mk 6 0 0 84) s m #[(.ref ob), (.ref st_), .null] below meth c s₁ [] 0 0 := Stand.of_body Bd
  have e0 : s₁.heap = h0 := by rw [← hh, Bd.state]; rfl
  have N0 := Fr.nil n0
  have pre0 : ∀ t, Steps p.tables e below (s₁.setTop (mkF m 0 #[rv ob, rv st_, .val .null, .unset] [])) t → Steps p.tables e below (s₁.setTop (entryFrame m #[(.ref ob), (.ref st_), .null] 4)) t := fun t k => castTop (ef_ha_2 m ob st_) k
  have wo123 := hw _ (own_m 123 rfl)
  have wo138 := hw _ (own_m 138 rfl)
  have wo158 := hw _ (own_m 158 rfl)
  have wo159 := hw _ (own_m 159 rfl)
  have wo160 := hw _ (own_m 160 rfl)
  have wo167 := hw _ (own_m 167 rfl)
  obtain ⟨T1, X1, e1, st1⟩ := getF X0 hx hZ hown (host := "") (Or.inl wo138) Via.refl e0 pf_F_ob_seed (g := (mkF m 1 #[rv ob, rv st_, .val .null, .unset] [(.ref ob)])) rfl rfl (hb hby d31_1)
  obtain ⟨_, _, ⟨T2, L2, k2, n2⟩, -, X2, ⟨Lc2, hQ2, l2, y2, z2⟩, st2⟩ := Jvm.LawKit.callS X1 hx (y := MN32) hown (mvT hZ wo158) (mvT hZ wo159) (mvT hZ wo123) (mvT hZ wo160) (by decide) (backOf (W := 0) (mx_2 l Z a0 hw [] sd st_ sv_ c0 c1 cs fm h0 n0 Z0 pf_O pS_COMPAC hcs pS_SIOOBE rfm pf_E_st_ pf_F_st__value pf_F_st__coder pf_A_sv_ hrA) hZ wo160 wo123 (by decide) (by decide)) (g := (mkF m 5 #[rv ob, rv st_, .val .null, .unset] [(.ref st_), (.int sd)])) rfl (by rw [hml]; rfl) (argsL := [(.int sd), (.ref st_)]) (rest := []) (lenOf pd_18 rfl) rfl (by show 2 * 0 + _ ≤ _; exact Nat.le_of_eq rfl) (hb hby d31_5) (fun _ _ => ⟨rfl, e1, (by decide : 0 + 0 ≤ _), (by decide : 0 + 0 ≤ _)⟩)
  dsimp only [Pt.U, Pt.locs, Pt.cells, Pt.slots] at X2 l2 y2 z2 st2 hQ2
  rw [l2, y2, z2] at X2
  obtain ⟨rfl, N2q, K2q⟩ := hQ2
  have N3 := Fr.app N0 N2q
  obtain ⟨fs, hr, hrun, hended, hW, hsame⟩ := X2.leave (v := some (.int ((((own_mix sd (2 : Int32) (c0 ||| (c1 <<< ((16 : Int32) &&& 31)))) ^^^ (((own_mix sd (2 : Int32) (c0 ||| (c1 <<< ((16 : Int32) &&& 31)))).toUInt32 >>> ((16 : Int32) &&& 31).toUInt32).toInt32)) * (-2048144789 : Int32)) ^^^ (((((own_mix sd (2 : Int32) (c0 ||| (c1 <<< ((16 : Int32) &&& 31)))) ^^^ (((own_mix sd (2 : Int32) (c0 ||| (c1 <<< ((16 : Int32) &&& 31)))).toUInt32 >>> ((16 : Int32) &&& 31).toUInt32).toInt32)) * (-2048144789 : Int32)).toUInt32 >>> ((13 : Int32) &&& 31).toUInt32).toInt32)))) (fun h => by rw [Bd.returns] at h; cases h)
  refine ⟨_, _, pre0 _ ?_, hrun, hended, _, _, rfl, ?_, ⟨_, rfl⟩, hW, hsame.mono (by decide) (by decide)⟩
  · show Steps _ _ _ (State.setTop _ (mkF m 0 #[rv ob, rv st_, .val .null, .unset] [])) _
    refine XS.aloadN X0.here hx rfl (hb hby d31_0) rfl rfl ?_
    show Steps _ _ _ (State.setTop _ (mkF m 1 #[rv ob, rv st_, .val .null, .unset] [(.ref ob)])) _
    refine st1 _ ?_
    refine XS.aloadN X1.here hx rfl (hb hby d31_4) rfl rfl ?_
    refine st2 _ ?_
    refine XS.istoreN X2.here hx rfl (hb hby d31_8) rfl (l' := #[rv ob, rv st_, .val .null, iv (own_mix sd (2 : Int32) (c0 ||| (c1 <<< ((16 : Int32) &&& 31))))]) rfl ?_
    refine XS.aloadN X2.here hx rfl (hb hby d31_9) rfl rfl ?_
    refine XS.ifnullYes X2.here hx rfl (pc0 := 10) (pc' := 19) rfl (hb hby d31_10) rfl (by decide) (by decide) ?_
    refine XS.iloadN X2.here hx rfl (hb hby d31_19) rfl ?_
    refine XS.iloadN X2.here hx rfl (hb hby d31_20) rfl ?_
    refine XS.bipush X2.here hx rfl (hb hby d31_21) ?_
    show Steps _ _ _ (State.setTop _ (mkF m 23 #[rv ob, rv st_, .val .null, iv (own_mix sd (2 : Int32) (c0 ||| (c1 <<< ((16 : Int32) &&& 31))))] [(.int 16), (.int (own_mix sd (2 : Int32) (c0 ||| (c1 <<< ((16 : Int32) &&& 31))))), (.int (own_mix sd (2 : Int32) (c0 ||| (c1 <<< ((16 : Int32) &&& 31)))))])) _
    refine XS.iushr X2.here hx rfl (hb hby d31_23) rfl ?_
    refine XS.ixor X2.here hx rfl (hb hby d31_24) rfl ?_
    refine XS.istoreN X2.here hx rfl (hb hby d31_25) rfl (l' := #[rv ob, rv st_, .val .null, iv ((own_mix sd (2 : Int32) (c0 ||| (c1 <<< ((16 : Int32) &&& 31)))) ^^^ (((own_mix sd (2 : Int32) (c0 ||| (c1 <<< ((16 : Int32) &&& 31)))).toUInt32 >>> ((16 : Int32) &&& 31).toUInt32).toInt32))]) rfl ?_
    refine XS.iloadN X2.here hx rfl (hb hby d31_26) rfl ?_
    refine X2.ldcInt hx hown (mvT hZ wo167) (g := (mkF m 27 #[rv ob, rv st_, .val .null, iv ((own_mix sd (2 : Int32) (c0 ||| (c1 <<< ((16 : Int32) &&& 31)))) ^^^ (((own_mix sd (2 : Int32) (c0 ||| (c1 <<< ((16 : Int32) &&& 31)))).toUInt32 >>> ((16 : Int32) &&& 31).toUInt32).toInt32))] [(.int ((own_mix sd (2 : Int32) (c0 ||| (c1 <<< ((16 : Int32) &&& 31)))) ^^^ (((own_mix sd (2 : Int32) (c0 ||| (c1 <<< ((16 : Int32) &&& 31)))).toUInt32 >>> ((16 : Int32) &&& 31).toUInt32).toInt32)))])) rfl (hb hby d31_27) _ ?_
    refine XS.imul X2.here hx rfl (hb hby d31_29) rfl ?_
    refine XS.istoreN X2.here hx rfl (hb hby d31_30) rfl (l' := #[rv ob, rv st_, .val .null, iv (((own_mix sd (2 : Int32) (c0 ||| (c1 <<< ((16 : Int32) &&& 31)))) ^^^ (((own_mix sd (2 : Int32) (c0 ||| (c1 <<< ((16 : Int32) &&& 31)))).toUInt32 >>> ((16 : Int32) &&& 31).toUInt32).toInt32)) * (-2048144789 : Int32))]) rfl ?_
    refine XS.iloadN X2.here hx rfl (hb hby d31_31) rfl ?_
    refine XS.iloadN X2.here hx rfl (hb hby d31_32) rfl ?_
    show Steps _ _ _ (State.setTop _ (mkF m 33 #[rv ob, rv st_, .val .null, iv (((own_mix sd (2 : Int32) (c0 ||| (c1 <<< ((16 : Int32) &&& 31)))) ^^^ (((own_mix sd (2 : Int32) (c0 ||| (c1 <<< ((16 : Int32) &&& 31)))).toUInt32 >>> ((16 : Int32) &&& 31).toUInt32).toInt32)) * (-2048144789 : Int32))] [(.int (((own_mix sd (2 : Int32) (c0 ||| (c1 <<< ((16 : Int32) &&& 31)))) ^^^ (((own_mix sd (2 : Int32) (c0 ||| (c1 <<< ((16 : Int32) &&& 31)))).toUInt32 >>> ((16 : Int32) &&& 31).toUInt32).toInt32)) * (-2048144789 : Int32))), (.int (((own_mix sd (2 : Int32) (c0 ||| (c1 <<< ((16 : Int32) &&& 31)))) ^^^ (((own_mix sd (2 : Int32) (c0 ||| (c1 <<< ((16 : Int32) &&& 31)))).toUInt32 >>> ((16 : Int32) &&& 31).toUInt32).toInt32)) * (-2048144789 : Int32)))])) _
    refine XS.bipush X2.here hx rfl (hb hby d31_33) ?_
    refine XS.iushr X2.here hx rfl (hb hby d31_35) rfl ?_
    refine XS.ixor X2.here hx rfl (hb hby d31_36) rfl ?_
    show Steps _ _ _ (State.setTop _ (mkF m 37 #[rv ob, rv st_, .val .null, iv (((own_mix sd (2 : Int32) (c0 ||| (c1 <<< ((16 : Int32) &&& 31)))) ^^^ (((own_mix sd (2 : Int32) (c0 ||| (c1 <<< ((16 : Int32) &&& 31)))).toUInt32 >>> ((16 : Int32) &&& 31).toUInt32).toInt32)) * (-2048144789 : Int32))] [(.int ((((own_mix sd (2 : Int32) (c0 ||| (c1 <<< ((16 : Int32) &&& 31)))) ^^^ (((own_mix sd (2 : Int32) (c0 ||| (c1 <<< ((16 : Int32) &&& 31)))).toUInt32 >>> ((16 : Int32) &&& 31).toUInt32).toInt32)) * (-2048144789 : Int32)) ^^^ (((((own_mix sd (2 : Int32) (c0 ||| (c1 <<< ((16 : Int32) &&& 31)))) ^^^ (((own_mix sd (2 : Int32) (c0 ||| (c1 <<< ((16 : Int32) &&& 31)))).toUInt32 >>> ((16 : Int32) &&& 31).toUInt32).toInt32)) * (-2048144789 : Int32)).toUInt32 >>> ((13 : Int32) &&& 31).toUInt32).toInt32)))])) _
    exact retI X2 hx Bd.returns (hb hby d31_37) hr
  · show Q_ha_2 Z _ _ _ _ _ _ _ _ h0 n0 _ T2.heap _
    rw [K2q]
    exact ⟨rfl, N3, rfl⟩
theorem d37_0 : decode prog_25_method_30_code 0 = .ok (.iconst 1, 1) := by decide +kernel
theorem d37_1 : decode prog_25_method_30_code 1 = .ok (.istore_n 1, 1) := by decide +kernel
theorem d37_2 : decode prog_25_method_30_code 2 = .ok (.aload_n 0, 1) := by decide +kernel
theorem d37_3 : decode prog_25_method_30_code 3 = .ok (.ifnull 14, 3) := by decide +kernel
theorem d37_6 : decode prog_25_method_30_code 6 = .ok (.iload_n 1, 1) := by decide +kernel
theorem d37_7 : decode prog_25_method_30_code 7 = .ok (.aload_n 0, 1) := by decide +kernel
theorem d37_8 : decode prog_25_method_30_code 8 = .ok (.invokevirtual 144, 3) := by decide +kernel
theorem d37_11 : decode prog_25_method_30_code 11 = .ok (.iconst 1, 1) := by decide +kernel
theorem d37_12 : decode prog_25_method_30_code 12 = .ok (.iadd, 1) := by decide +kernel
theorem d37_13 : decode prog_25_method_30_code 13 = .ok (.iconst 2, 1) := by decide +kernel
theorem d37_14 : decode prog_25_method_30_code 14 = .ok (.idiv, 1) := by decide +kernel
theorem d37_15 : decode prog_25_method_30_code 15 = .ok (.iadd, 1) := by decide +kernel
theorem d37_16 : decode prog_25_method_30_code 16 = .ok (.istore_n 1, 1) := by decide +kernel
theorem d37_17 : decode prog_25_method_30_code 17 = .ok (.iload_n 1, 1) := by decide +kernel
theorem d37_18 : decode prog_25_method_30_code 18 = .ok (.ireturn, 1) := by decide +kernel
theorem ef_tl_1 (m : MethodId) (x0 : Addr) : entryFrame m #[(.ref x0)] 2 = mkF m 0 #[rv x0, .unset] [] := by first | (simp [entryFrame, mkF, argsToLocals, Value.category]; done) | rfl
def Q_tl_1 (Z : State) (st_ sv_ : Addr) (c0 cs : Int32) (fm : Value) (h0 : Heap) (n0 : Nat) (v : Option Value) (h : Heap) (L : List Loc) : Prop := v = some (.int 2) ∧ Fr n0 L ∧ h = h0
set_option maxRecDepth 65536 in
set_option maxHeartbeats 40000000 in
theorem tl_1 (l : Launch) (Z : State) (a0 : Array Value) (hw : ∀ d ∈ tables_1, d.before a0 Z = true) (ws : List Jvm.Cond) (st_ sv_ : Addr) (c0 cs : Int32) (fm : Value) (h0 : Heap) (n0 : Nat) (Z0 : n0 ≤ h0.size) (pf_O : Old Z n0 h0) (pS_COMPAC : Sta Z Z.heap "java/lang/String" "COMPACT_STRINGS" "Z" (.int cs)) (hcs : ¬ (cs = 0)) (pS_SIOOBE : Sta Z Z.heap "jdk/internal/util/Preconditions" "SIOOBE_FORMATTER" "Ljava/util/function/BiFunction;" fm) (rfm : fm.isRef = true) (pf_E_st_ : Exa Z h0 st_ "java/lang/String") (pf_F_st__value : Fld Z h0 st_ "java/lang/String" "value" "[B" (.ref sv_)) (pf_F_st__coder : Fld Z h0 st_ "java/lang/String" "coder" "B" (.int 0)) (pf_A_sv_ : Av Z h0 sv_ .byte (1 : Int32) (own_vs [c0]) (.int 0)) (hrA : ∀ c ∈ ([c0] : List Int32), ¬ c < 0 ∧ ¬ (255 : Int32) < c) :
    MetFree l MN37 (head1 (Jvm.Cond.code MN37 prog_25_method_30_code 2 (some .int) :: ws) (Room.mk 2 0 0 26)) (fun a U => a = #[(.ref st_)] ∧ Z.Warmed39 U.vm ∧ U.heap = h0) (fun _ _ _ _ _ => True) (fun _ U o U' => ∃ v L, o = .returned v ∧ Q_tl_1 Z st_ sv_ c0 cs fm h0 n0 v U'.heap L ∧ FrameEnd U o U' L (Room.mk 2 0 0 26).cells (Room.mk 2 0 0 26).slots) := by
  refine MetFree.of_bodySF (plainFor_of_name pn_com_example_arbiter_arbiter_OrdinalTable) hisR ?_
  intro p e s m args below meth c s₁ Bd hml0 hP hK
  obtain ⟨rfl, hZ, hh⟩ := hP
  have hx := Bd.exec
  have hby := Bd.bytes
  have hml : c.maxLocals = 2 := hml0
  have hown : s.vm.findClass "com/example/arbiter/arbiter/OrdinalTable" = some m.cls := findClass_of_methodNamed Bd.named
  have hnm := (name_of_methodNamed Bd.named Bd.method).1
  have X0 : Stand p l e (Room.mk 2 0 0 26) s m #[(.ref st_)] below meth c s₁ [] 0 0 := Stand.of_body Bd
  have e0 : s₁.heap = h0 := by rw [← hh, Bd.state]; rfl
  have N0 := Fr.nil n0
  have pre0 : ∀ t, Steps p.tables e below (s₁.setTop (mkF m 0 #[rv st_, .unset] [])) t → Steps p.tables e below (s₁.setTop (entryFrame m #[(.ref st_)] 2)) t := fun t k => castTop (ef_tl_1 m st_) k
  have wo17 := hw _ (own_m 17 rfl)
  have wo50 := hw _ (own_m 50 rfl)
  have wo51 := hw _ (own_m 51 rfl)
  have wo52 := hw _ (own_m 52 rfl)
  have wo161 := hw _ (own_m 161 rfl)
  obtain ⟨kv2, hv3⟩ := id pf_A_sv_
  have hws1 : ∀ d ∈ StrChars.Road.wordsLen, d.before a0 Z = true := fun d hd => hw d ((by decide +kernel : ∀ d ∈ StrChars.Road.wordsLen, d ∈ tables_1) d hd)
  obtain ⟨cq1, kq1, q1a, q1b, q1c⟩ := isOf hZ e0 pf_E_st_
  obtain ⟨_, _, ⟨T1, L1, k1, n1⟩, -, X1, ⟨Lc1, hQ1, l1, y1, z1⟩, st1⟩ := X0.virtualBack hx (y := MN10) (z := MN10) hown (mvT hZ wo161) (mvT hZ wo50) (notFace_of_selects (args := #[]) (mvT hZ wo52)) (mvT hZ wo52) (mvT hZ wo51) (by decide) (StrChars.Road.lenW (W := 1) hZ hws1 (kI := 4) wo17 pf_E_st_ pf_F_st__value pf_F_st__coder hv3 (own_cod (by rfl) hrA) (own_wid hrA) (pS_COMPAC.ext pf_O.2) hcs (Nat.le_of_ble_eq_true rfl) (by decide) (by decide)) q1a q1c (g := (mkF m 8 #[rv st_, iv 1] [(.ref st_), (.int 1)])) rfl (by rw [hml]; rfl) (Steps.refl _) (argsL := []) (rest := [(.int 1)]) (lenOf pd_1 rfl) rfl (by show 2 * 0 + _ ≤ _; exact Nat.le_of_eq rfl) (hb hby d37_8) (fun _ _ => ⟨rfl, e0, (by decide : 0 + 0 ≤ _), (by decide : 0 + 0 ≤ _)⟩)
  dsimp only [Pt.U, Pt.locs, Pt.cells, Pt.slots] at X1 l1 y1 z1 st1 hQ1
  rw [l1, y1, z1] at X1
  obtain ⟨rfl, hl1, K1q⟩ := hQ1
  rw [hl1, List.append_nil] at X1
  have q4 : ((1 : Int32) + ((2 : Int32) / (2 : Int32))) = 2 := by decide
  obtain ⟨fs, hr, hrun, hended, hW, hsame⟩ := X1.leave (v := some (.int 2)) (fun h => by rw [Bd.returns] at h; cases h)
  refine ⟨_, _, pre0 _ ?_, hrun, hended, _, _, rfl, ?_, ⟨_, rfl⟩, hW, hsame.mono (by decide) (by decide)⟩
  · show Steps _ _ _ (State.setTop _ (mkF m 0 #[rv st_, .unset] [])) _
    refine XS.iconst X0.here hx rfl (hb hby d37_0) ?_
    show Steps _ _ _ (State.setTop _ (mkF m 1 #[rv st_, .unset] [(.int 1)])) _
    refine XS.istoreN X0.here hx rfl (hb hby d37_1) rfl (l' := #[rv st_, iv 1]) rfl ?_
    refine XS.aloadN X0.here hx rfl (hb hby d37_2) rfl rfl ?_
    refine XS.ifnullNo X0.here hx rfl (hb hby d37_3) rfl ?_
    refine XS.iloadN X0.here hx rfl (hb hby d37_6) rfl ?_
    refine XS.aloadN X0.here hx rfl (hb hby d37_7) rfl rfl ?_
    refine st1.trans ?_
    refine XS.iconst X1.here hx rfl (hb hby d37_11) ?_
    refine XS.iadd X1.here hx rfl (hb hby d37_12) rfl ?_
    refine XS.iconst X1.here hx rfl (hb hby d37_13) ?_
    show Steps _ _ _ (State.setTop _ (mkF m 14 #[rv st_, iv 1] [(.int 2), (.int 2), (.int 1)])) _
    refine XS.idiv X1.here hx rfl (hb hby d37_14) rfl (by decide) ?_
    refine XS.iadd X1.here hx rfl (hb hby d37_15) rfl ?_
    refine XS.istoreN X1.here hx rfl (hb hby d37_16) rfl (l' := #[rv st_, iv ((1 : Int32) + ((2 : Int32) / (2 : Int32)))]) rfl ?_
    refine XS.iloadN X1.here hx rfl (hb hby d37_17) rfl ?_
    show Steps _ _ _ (State.setTop _ (mkF m 18 #[rv st_, iv ((1 : Int32) + ((2 : Int32) / (2 : Int32)))] [(.int ((1 : Int32) + ((2 : Int32) / (2 : Int32))))])) _
    rw [q4]
    show Steps _ _ _ (State.setTop _ (mkF m 18 #[rv st_, iv 2] [(.int 2)])) _
    show Steps _ _ _ (State.setTop _ (mkF m 18 #[rv st_, iv 2] [(.int 2)])) _
    exact retI X1 hx Bd.returns (hb hby d37_18) hr
  · show Q_tl_1 Z _ _ _ _ _ h0 n0 _ T1.heap _
    rw [K1q]
    exact ⟨rfl, N0, rfl⟩
theorem ef_tl_2 (m : MethodId) (x0 : Addr) : entryFrame m #[(.ref x0)] 2 = mkF m 0 #[rv x0, .unset] [] := by first | (simp [entryFrame, mkF, argsToLocals, Value.category]; done) | rfl
def Q_tl_2 (Z : State) (st_ sv_ : Addr) (c0 c1 cs : Int32) (fm : Value) (h0 : Heap) (n0 : Nat) (v : Option Value) (h : Heap) (L : List Loc) : Prop := v = some (.int 2) ∧ Fr n0 L ∧ h = h0
set_option maxRecDepth 65536 in
set_option maxHeartbeats 40000000 in
theorem tl_2 (l : Launch) (Z : State) (a0 : Array Value) (hw : ∀ d ∈ tables_1, d.before a0 Z = true) (ws : List Jvm.Cond) (st_ sv_ : Addr) (c0 c1 cs : Int32) (fm : Value) (h0 : Heap) (n0 : Nat) (Z0 : n0 ≤ h0.size) (pf_O : Old Z n0 h0) (pS_COMPAC : Sta Z Z.heap "java/lang/String" "COMPACT_STRINGS" "Z" (.int cs)) (hcs : ¬ (cs = 0)) (pS_SIOOBE : Sta Z Z.heap "jdk/internal/util/Preconditions" "SIOOBE_FORMATTER" "Ljava/util/function/BiFunction;" fm) (rfm : fm.isRef = true) (pf_E_st_ : Exa Z h0 st_ "java/lang/String") (pf_F_st__value : Fld Z h0 st_ "java/lang/String" "value" "[B" (.ref sv_)) (pf_F_st__coder : Fld Z h0 st_ "java/lang/String" "coder" "B" (.int 0)) (pf_A_sv_ : Av Z h0 sv_ .byte (2 : Int32) (own_vs [c0, c1]) (.int 0)) (hrA : ∀ c ∈ ([c0, c1] : List Int32), ¬ c < 0 ∧ ¬ (255 : Int32) < c) :
    MetFree l MN37 (head1 (Jvm.Cond.code MN37 prog_25_method_30_code 2 (some .int) :: ws) (Room.mk 2 0 0 26)) (fun a U => a = #[(.ref st_)] ∧ Z.Warmed39 U.vm ∧ U.heap = h0) (fun _ _ _ _ _ => True) (fun _ U o U' => ∃ v L, o = .returned v ∧ Q_tl_2 Z st_ sv_ c0 c1 cs fm h0 n0 v U'.heap L ∧ FrameEnd U o U' L (Room.mk 2 0 0 26).cells (Room.mk 2 0 0 26).slots) := by
  refine MetFree.of_bodySF (plainFor_of_name pn_com_example_arbiter_arbiter_OrdinalTable) hisR ?_
  intro p e s m args below meth c s₁ Bd hml0 hP hK
  obtain ⟨rfl, hZ, hh⟩ := hP
  have hx := Bd.exec
  have hby := Bd.bytes
  have hml : c.maxLocals = 2 := hml0
  have hown : s.vm.findClass "com/example/arbiter/arbiter/OrdinalTable" = some m.cls := findClass_of_methodNamed Bd.named
  have hnm := (name_of_methodNamed Bd.named Bd.method).1
  have X0 : Stand p l e (Room.mk 2 0 0 26) s m #[(.ref st_)] below meth c s₁ [] 0 0 := Stand.of_body Bd
  have e0 : s₁.heap = h0 := by rw [← hh, Bd.state]; rfl
  have N0 := Fr.nil n0
  have pre0 : ∀ t, Steps p.tables e below (s₁.setTop (mkF m 0 #[rv st_, .unset] [])) t → Steps p.tables e below (s₁.setTop (entryFrame m #[(.ref st_)] 2)) t := fun t k => castTop (ef_tl_2 m st_) k
  have wo17 := hw _ (own_m 17 rfl)
  have wo50 := hw _ (own_m 50 rfl)
  have wo51 := hw _ (own_m 51 rfl)
  have wo52 := hw _ (own_m 52 rfl)
  have wo161 := hw _ (own_m 161 rfl)
  obtain ⟨kv2, hv3⟩ := id pf_A_sv_
  have hws1 : ∀ d ∈ StrChars.Road.wordsLen, d.before a0 Z = true := fun d hd => hw d ((by decide +kernel : ∀ d ∈ StrChars.Road.wordsLen, d ∈ tables_1) d hd)
  obtain ⟨cq1, kq1, q1a, q1b, q1c⟩ := isOf hZ e0 pf_E_st_
  obtain ⟨_, _, ⟨T1, L1, k1, n1⟩, -, X1, ⟨Lc1, hQ1, l1, y1, z1⟩, st1⟩ := X0.virtualBack hx (y := MN10) (z := MN10) hown (mvT hZ wo161) (mvT hZ wo50) (notFace_of_selects (args := #[]) (mvT hZ wo52)) (mvT hZ wo52) (mvT hZ wo51) (by decide) (StrChars.Road.lenW (W := 1) hZ hws1 (kI := 4) wo17 pf_E_st_ pf_F_st__value pf_F_st__coder hv3 (own_cod (by rfl) hrA) (own_wid hrA) (pS_COMPAC.ext pf_O.2) hcs (Nat.le_of_ble_eq_true rfl) (by decide) (by decide)) q1a q1c (g := (mkF m 8 #[rv st_, iv 1] [(.ref st_), (.int 1)])) rfl (by rw [hml]; rfl) (Steps.refl _) (argsL := []) (rest := [(.int 1)]) (lenOf pd_1 rfl) rfl (by show 2 * 0 + _ ≤ _; exact Nat.le_of_eq rfl) (hb hby d37_8) (fun _ _ => ⟨rfl, e0, (by decide : 0 + 0 ≤ _), (by decide : 0 + 0 ≤ _)⟩)
  dsimp only [Pt.U, Pt.locs, Pt.cells, Pt.slots] at X1 l1 y1 z1 st1 hQ1
  rw [l1, y1, z1] at X1
  obtain ⟨rfl, hl1, K1q⟩ := hQ1
  rw [hl1, List.append_nil] at X1
  have q4 : ((1 : Int32) + ((3 : Int32) / (2 : Int32))) = 2 := by decide
  obtain ⟨fs, hr, hrun, hended, hW, hsame⟩ := X1.leave (v := some (.int 2)) (fun h => by rw [Bd.returns] at h; cases h)
  refine ⟨_, _, pre0 _ ?_, hrun, hended, _, _, rfl, ?_, ⟨_, rfl⟩, hW, hsame.mono (by decide) (by decide)⟩
  · show Steps _ _ _ (State.setTop _ (mkF m 0 #[rv st_, .unset] [])) _
    refine XS.iconst X0.here hx rfl (hb hby d37_0) ?_
    show Steps _ _ _ (State.setTop _ (mkF m 1 #[rv st_, .unset] [(.int 1)])) _
    refine XS.istoreN X0.here hx rfl (hb hby d37_1) rfl (l' := #[rv st_, iv 1]) rfl ?_
    refine XS.aloadN X0.here hx rfl (hb hby d37_2) rfl rfl ?_
    refine XS.ifnullNo X0.here hx rfl (hb hby d37_3) rfl ?_
    refine XS.iloadN X0.here hx rfl (hb hby d37_6) rfl ?_
    refine XS.aloadN X0.here hx rfl (hb hby d37_7) rfl rfl ?_
    refine st1.trans ?_
    refine XS.iconst X1.here hx rfl (hb hby d37_11) ?_
    refine XS.iadd X1.here hx rfl (hb hby d37_12) rfl ?_
    refine XS.iconst X1.here hx rfl (hb hby d37_13) ?_
    show Steps _ _ _ (State.setTop _ (mkF m 14 #[rv st_, iv 1] [(.int 2), (.int 3), (.int 1)])) _
    refine XS.idiv X1.here hx rfl (hb hby d37_14) rfl (by decide) ?_
    refine XS.iadd X1.here hx rfl (hb hby d37_15) rfl ?_
    refine XS.istoreN X1.here hx rfl (hb hby d37_16) rfl (l' := #[rv st_, iv ((1 : Int32) + ((3 : Int32) / (2 : Int32)))]) rfl ?_
    refine XS.iloadN X1.here hx rfl (hb hby d37_17) rfl ?_
    show Steps _ _ _ (State.setTop _ (mkF m 18 #[rv st_, iv ((1 : Int32) + ((3 : Int32) / (2 : Int32)))] [(.int ((1 : Int32) + ((3 : Int32) / (2 : Int32))))])) _
    rw [q4]
    show Steps _ _ _ (State.setTop _ (mkF m 18 #[rv st_, iv 2] [(.int 2)])) _
    show Steps _ _ _ (State.setTop _ (mkF m 18 #[rv st_, iv 2] [(.int 2)])) _
    exact retI X1 hx Bd.returns (hb hby d37_18) hr
  · show Q_tl_2 Z _ _ _ _ _ _ h0 n0 _ T1.heap _
    rw [K1q]
    exact ⟨rfl, N0, rfl⟩
theorem ef_tl_N (m : MethodId)  : entryFrame m #[.null] 2 = mkF m 0 #[.val .null, .unset] [] := by first | (simp [entryFrame, mkF, argsToLocals, Value.category]; done) | rfl
def Q_tl_N (Z : State)  (h0 : Heap) (n0 : Nat) (v : Option Value) (h : Heap) (L : List Loc) : Prop := v = some (.int 1) ∧ Fr n0 L ∧ h = h0
set_option maxRecDepth 65536 in
set_option maxHeartbeats 40000000 in
theorem tl_N (l : Launch) (Z : State) (a0 : Array Value) (hw : ∀ d ∈ tables_1, d.before a0 Z = true) (ws : List Jvm.Cond)  (h0 : Heap) (n0 : Nat) (Z0 : n0 ≤ h0.size) :
    MetFree l MN37 (head1 (Jvm.Cond.code MN37 prog_25_method_30_code 2 (some .int) :: ws) (Room.mk 0 0 0 0)) (fun a U => a = #[.null] ∧ Z.Warmed39 U.vm ∧ U.heap = h0) (fun _ _ _ _ _ => True) (fun _ U o U' => ∃ v L, o = .returned v ∧ Q_tl_N Z  h0 n0 v U'.heap L ∧ FrameEnd U o U' L (Room.mk 0 0 0 0).cells (Room.mk 0 0 0 0).slots) := by
  refine MetFree.of_bodySF (plainFor_of_name pn_com_example_arbiter_arbiter_OrdinalTable) hisR ?_
  intro p e s m args below meth c s₁ Bd hml0 hP hK
  obtain ⟨rfl, hZ, hh⟩ := hP
  have hx := Bd.exec
  have hby := Bd.bytes
  have hml : c.maxLocals = 2 := hml0
  have hown : s.vm.findClass "com/example/arbiter/arbiter/OrdinalTable" = some m.cls := findClass_of_methodNamed Bd.named
  have hnm := (name_of_methodNamed Bd.named Bd.method).1
  have X0 : Stand p l e (Room.mk 0 0 0 0) s m #[.null] below meth c s₁ [] 0 0 := Stand.of_body Bd
  have e0 : s₁.heap = h0 := by rw [← hh, Bd.state]; rfl
  have N0 := Fr.nil n0
  have pre0 : ∀ t, Steps p.tables e below (s₁.setTop (mkF m 0 #[.val .null, .unset] [])) t → Steps p.tables e below (s₁.setTop (entryFrame m #[.null] 2)) t := fun t k => castTop (ef_tl_N m ) k
  obtain ⟨fs, hr, hrun, hended, hW, hsame⟩ := X0.leave (v := some (.int 1)) (fun h => by rw [Bd.returns] at h; cases h)
  refine ⟨_, _, pre0 _ ?_, hrun, hended, _, _, rfl, ?_, ⟨_, rfl⟩, hW, hsame.mono (by decide) (by decide)⟩
  · show Steps _ _ _ (State.setTop _ (mkF m 0 #[.val .null, .unset] [])) _
    refine XS.iconst X0.here hx rfl (hb hby d37_0) ?_
    show Steps _ _ _ (State.setTop _ (mkF m 1 #[.val .null, .unset] [(.int 1)])) _
    refine XS.istoreN X0.here hx rfl (hb hby d37_1) rfl (l' := #[.val .null, iv 1]) rfl ?_
    refine XS.aloadN X0.here hx rfl (hb hby d37_2) rfl rfl ?_
    refine XS.ifnullYes X0.here hx rfl (pc0 := 3) (pc' := 17) rfl (hb hby d37_3) rfl (by decide) (by decide) ?_
    refine XS.iloadN X0.here hx rfl (hb hby d37_17) rfl ?_
    show Steps _ _ _ (State.setTop _ (mkF m 18 #[.val .null, iv 1] [(.int 1)])) _
    exact retI X0 hx Bd.returns (hb hby d37_18) hr
  · show Q_tl_N Z  h0 n0 _ s₁.heap _
    rw [e0]
    exact ⟨rfl, N0, rfl⟩
theorem own_j {x : Int32} (h : 0 ≤ x.toInt ∧ x.toInt < 62) : (¬ x < 0 ∧ x < 64) ∧ (¬ (x + (1 : Int32)) < 0 ∧ (x + (1 : Int32)) < 64) := by
  have e : (x + (1 : Int32)).toInt = x.toInt + 1 := by rw [own_ad (by omega) (by decide)]; rfl
  exact ⟨own_in (by rw [show (64 : Int32).toInt = 64 from rfl]; omega), own_in (by rw [e, show (64 : Int32).toInt = 64 from rfl]; omega)⟩
theorem d38_0 : decode prog_25_method_26_code 0 = .ok (.aload_n 2, 1) := by decide +kernel
theorem d38_1 : decode prog_25_method_26_code 1 = .ok (.ifnonnull 14, 3) := by decide +kernel
theorem d38_15 : decode prog_25_method_26_code 15 = .ok (.aload_n 0, 1) := by decide +kernel
theorem d38_16 : decode prog_25_method_26_code 16 = .ok (.getfield 30, 3) := by decide +kernel
theorem d38_19 : decode prog_25_method_26_code 19 = .ok (.iload_n 1, 1) := by decide +kernel
theorem d38_20 : decode prog_25_method_26_code 20 = .ok (.aload_n 2, 1) := by decide +kernel
theorem d38_21 : decode prog_25_method_26_code 21 = .ok (.invokevirtual 144, 3) := by decide +kernel
theorem d38_24 : decode prog_25_method_26_code 24 = .ok (.iastore, 1) := by decide +kernel
theorem d38_25 : decode prog_25_method_26_code 25 = .ok (.iload_n 1, 1) := by decide +kernel
theorem d38_26 : decode prog_25_method_26_code 26 = .ok (.iconst 1, 1) := by decide +kernel
theorem d38_27 : decode prog_25_method_26_code 27 = .ok (.iadd, 1) := by decide +kernel
theorem d38_28 : decode prog_25_method_26_code 28 = .ok (.istore_n 3, 1) := by decide +kernel
theorem d38_29 : decode prog_25_method_26_code 29 = .ok (.iconst 0, 1) := by decide +kernel
theorem d38_30 : decode prog_25_method_26_code 30 = .ok (.istore 4, 2) := by decide +kernel
theorem d38_32 : decode prog_25_method_26_code 32 = .ok (.iload 4, 2) := by decide +kernel
theorem d38_34 : decode prog_25_method_26_code 34 = .ok (.aload_n 2, 1) := by decide +kernel
theorem d38_35 : decode prog_25_method_26_code 35 = .ok (.invokevirtual 144, 3) := by decide +kernel
theorem d38_38 : decode prog_25_method_26_code 38 = .ok (.if_icmp .ge 24, 3) := by decide +kernel
theorem d38_41 : decode prog_25_method_26_code 41 = .ok (.aload_n 0, 1) := by decide +kernel
theorem d38_42 : decode prog_25_method_26_code 42 = .ok (.getfield 30, 3) := by decide +kernel
theorem d38_45 : decode prog_25_method_26_code 45 = .ok (.iload_n 3, 1) := by decide +kernel
theorem d38_46 : decode prog_25_method_26_code 46 = .ok (.iinc 3 1, 3) := by decide +kernel
theorem d38_49 : decode prog_25_method_26_code 49 = .ok (.aload_n 2, 1) := by decide +kernel
theorem d38_50 : decode prog_25_method_26_code 50 = .ok (.iload 4, 2) := by decide +kernel
theorem d38_52 : decode prog_25_method_26_code 52 = .ok (.invokestatic 149, 3) := by decide +kernel
theorem d38_55 : decode prog_25_method_26_code 55 = .ok (.iastore, 1) := by decide +kernel
theorem d38_56 : decode prog_25_method_26_code 56 = .ok (.iinc 4 2, 3) := by decide +kernel
theorem d38_59 : decode prog_25_method_26_code 59 = .ok (.goto (-27), 3) := by decide +kernel
theorem d38_62 : decode prog_25_method_26_code 62 = .ok (.iload_n 3, 1) := by decide +kernel
theorem d38_63 : decode prog_25_method_26_code 63 = .ok (.ireturn, 1) := by decide +kernel
theorem ef_wt_1 (m : MethodId) (x0 : Addr) (x1 : Int32) (x2 : Addr) : entryFrame m #[(.ref x0), (.int x1), (.ref x2)] 5 = mkF m 0 #[rv x0, iv x1, rv x2, .unset, .unset] [] := by first | (simp [entryFrame, mkF, argsToLocals, Value.category]; done) | rfl
def Q_wt_1 (Z : State) (at_ : Int32) (ob re : Addr) (RL : List Int32) (st_ sv_ : Addr) (c0 cs : Int32) (fm : Value) (h0 : Heap) (n0 : Nat) (v : Option Value) (h : Heap) (L : List Loc) : Prop := v = some (.int ((at_ + 1) + 1)) ∧ Fr n0 L ∧ Keep h0 h [re] ∧ (Av Z h re .int 64 (own_cv (own_s (own_s RL at_ (1 : Int32)) (at_ + 1) c0)) (.int 0))
set_option maxRecDepth 65536 in
set_option maxHeartbeats 40000000 in
theorem wt_1 (l : Launch) (Z : State) (a0 : Array Value) (hw : ∀ d ∈ tables_1, d.before a0 Z = true) (ws : List Jvm.Cond) (at_ : Int32) (ob re : Addr) (RL : List Int32) (st_ sv_ : Addr) (c0 cs : Int32) (fm : Value) (h0 : Heap) (n0 : Nat) (Z0 : n0 ≤ h0.size) (pf_O : Old Z n0 h0) (pS_COMPAC : Sta Z Z.heap "java/lang/String" "COMPACT_STRINGS" "Z" (.int cs)) (hcs : ¬ (cs = 0)) (pS_SIOOBE : Sta Z Z.heap "jdk/internal/util/Preconditions" "SIOOBE_FORMATTER" "Ljava/util/function/BiFunction;" fm) (rfm : fm.isRef = true) (pf_E_st_ : Exa Z h0 st_ "java/lang/String") (pf_F_st__value : Fld Z h0 st_ "java/lang/String" "value" "[B" (.ref sv_)) (pf_F_st__coder : Fld Z h0 st_ "java/lang/String" "coder" "B" (.int 0)) (pf_A_sv_ : Av Z h0 sv_ .byte (1 : Int32) (own_vs [c0]) (.int 0)) (hrA : ∀ c ∈ ([c0] : List Int32), ¬ c < 0 ∧ ¬ (255 : Int32) < c) (pf_F_ob_records : Fld Z h0 ob "com/example/arbiter/arbiter/OrdinalTable" "records" "[I" (.ref re)) (pf_A_re : Av Z h0 re .int 64 (own_cv RL) (.int 0)) (hRL : RL.length = 64) (pf_G_re : n0 ≤ re) (pf_NE_ob_re : ob ≠ re) (pf_NE_st__re : st_ ≠ re) (pf_NE_sv__re : sv_ ≠ re) (hat : 0 ≤ at_.toInt ∧ at_.toInt < 62) :
    MetFree l MN38 (head1 (Jvm.Cond.code MN38 prog_25_method_26_code 5 (some .int) :: ws) (Room.mk 5 0 0 69)) (fun a U => a = #[(.ref ob), (.int at_), (.ref st_)] ∧ Z.Warmed39 U.vm ∧ U.heap = h0) (fun _ _ _ _ _ => True) (fun _ U o U' => ∃ v L, o = .returned v ∧ Q_wt_1 Z at_ ob re RL st_ sv_ c0 cs fm h0 n0 v U'.heap L ∧ FrameEnd U o U' L (Room.mk 5 0 0 69).cells (Room.mk 5 0 0 69).slots) := by
  refine MetFree.of_bodySF (plainFor_of_name pn_com_example_arbiter_arbiter_OrdinalTable) hisR ?_
  intro p e s m args below meth c s₁ Bd hml0 hP hK
  obtain ⟨rfl, hZ, hh⟩ := hP
  have hx := Bd.exec
  have hby := Bd.bytes
  have hml : c.maxLocals = 5 := hml0
  have hown : s.vm.findClass "com/example/arbiter/arbiter/OrdinalTable" = some m.cls := findClass_of_methodNamed Bd.named
  have hnm := (name_of_methodNamed Bd.named Bd.method).1
  have X0 : Stand p l e (Room.mk 5 0 0 69) s m #[(.ref ob), (.int at_), (.ref st_)] below meth c s₁ [] 0 0 := Stand.of_body Bd
  have e0 : s₁.heap = h0 := by rw [← hh, Bd.state]; rfl
  have N0 := Fr.nil n0
  have pre0 : ∀ t, Steps p.tables e below (s₁.setTop (mkF m 0 #[rv ob, iv at_, rv st_, .unset, .unset] [])) t → Steps p.tables e below (s₁.setTop (entryFrame m #[(.ref ob), (.int at_), (.ref st_)] 5)) t := fun t k => castTop (ef_wt_1 m ob at_ st_) k
  have wo17 := hw _ (own_m 17 rfl)
  have wo50 := hw _ (own_m 50 rfl)
  have wo51 := hw _ (own_m 51 rfl)
  have wo52 := hw _ (own_m 52 rfl)
  have wo123 := hw _ (own_m 123 rfl)
  have wo134 := hw _ (own_m 134 rfl)
  have wo161 := hw _ (own_m 161 rfl)
  have wo162 := hw _ (own_m 162 rfl)
  have wo163 := hw _ (own_m 163 rfl)
  have wo164 := hw _ (own_m 164 rfl)
  obtain ⟨T1, X1, e1, st1⟩ := getF X0 hx hZ hown (host := "") (Or.inl wo134) Via.refl e0 pf_F_ob_records (g := (mkF m 16 #[rv ob, iv at_, rv st_, .unset, .unset] [(.ref ob)])) rfl rfl (hb hby d38_16)
  obtain ⟨kv3, hv4⟩ := id pf_A_sv_
  have hws2 : ∀ d ∈ StrChars.Road.wordsLen, d.before a0 Z = true := fun d hd => hw d ((by decide +kernel : ∀ d ∈ StrChars.Road.wordsLen, d ∈ tables_1) d hd)
  obtain ⟨cq2, kq2, q2a, q2b, q2c⟩ := isOf hZ e1 pf_E_st_
  obtain ⟨_, _, ⟨T2, L2, k2, n2⟩, -, X2, ⟨Lc2, hQ2, l2, y2, z2⟩, st2⟩ := X1.virtualBack hx (y := MN10) (z := MN10) hown (mvT hZ wo161) (mvT hZ wo50) (notFace_of_selects (args := #[]) (mvT hZ wo52)) (mvT hZ wo52) (mvT hZ wo51) (by decide) (StrChars.Road.lenW (W := 2) hZ hws2 (kI := 4) wo17 pf_E_st_ pf_F_st__value pf_F_st__coder hv4 (own_cod (by rfl) hrA) (own_wid hrA) (pS_COMPAC.ext pf_O.2) hcs (Nat.le_of_ble_eq_true rfl) (by decide) (by decide)) q2a q2c (g := (mkF m 21 #[rv ob, iv at_, rv st_, .unset, .unset] [(.ref st_), (.int at_), (.ref re)])) rfl (by rw [hml]; rfl) (Steps.refl _) (argsL := []) (rest := [(.int at_), (.ref re)]) (lenOf pd_1 rfl) rfl (by show 2 * 0 + _ ≤ _; exact Nat.le_of_eq rfl) (hb hby d38_21) (fun _ _ => ⟨rfl, e1, (by decide : 0 + 0 ≤ _), (by decide : 0 + 0 ≤ _)⟩)
  dsimp only [Pt.U, Pt.locs, Pt.cells, Pt.slots] at X2 l2 y2 z2 st2 hQ2
  rw [l2, y2, z2] at X2
  obtain ⟨rfl, hl2, K2q⟩ := hQ2
  rw [hl2, List.append_nil] at X2
  obtain ⟨kk5, cl5, Ar5, qq5, Sz5, Nn5, Hs5, Gf5⟩ := id pf_A_re
  have hin6 : ¬ (at_ < 0 ∨ cl5.slots.size ≤ (at_).toNatClampNeg) := inb_of Sz5 (own_j hat).1
  obtain ⟨T7, h7, X7, e7, W7, st7⟩ := stI X2 hx hZ K2q Ar5 (j := at_) hin6 (g := (mkF m 24 #[rv ob, iv at_, rv st_, .unset, .unset] [(.int 1), (.int at_), (.ref re)])) rfl rfl (hb hby d38_24)
  have K8 : Keep h0 h7 [re] := (Keep.refl h0 [re]).wr W7 (Or.inl (own_m 0 rfl))
  have f9 : Av Z h7 re .int 64 (own_cv (own_s RL at_ (1 : Int32))) (.int 0) := by rw [← own_cvs]; exact ⟨_, Arv.set Ar5 qq5 Sz5 Nn5 Hs5 Gf5 rfl W7 _ rfl (own_ltp Sz5 hin6 hRL)⟩
  have N10 := Fr.snoc X7 N0 pf_G_re
  have f14 := (pf_A_sv_.other W7 pf_NE_sv__re)
  obtain ⟨kv12, hv13⟩ := id f14
  have f15 := (pf_E_st_.wr W7)
  have f16 := (pf_F_st__value.other W7 (Or.inl pf_NE_st__re))
  have f17 := (pf_F_st__coder.other W7 (Or.inl pf_NE_st__re))
  have hws11 : ∀ d ∈ StrChars.Road.wordsLen, d.before a0 Z = true := fun d hd => hw d ((by decide +kernel : ∀ d ∈ StrChars.Road.wordsLen, d ∈ tables_1) d hd)
  have f18 := (pf_O.wr W7 pf_G_re)
  obtain ⟨cq11, kq11, q11a, q11b, q11c⟩ := isOf hZ e7 f15
  obtain ⟨_, _, ⟨T11, L11, k11, n11⟩, -, X11, ⟨Lc11, hQ11, l11, y11, z11⟩, st11⟩ := X7.virtualBack hx (y := MN10) (z := MN10) hown (mvT hZ wo161) (mvT hZ wo50) (notFace_of_selects (args := #[]) (mvT hZ wo52)) (mvT hZ wo52) (mvT hZ wo51) (by decide) (StrChars.Road.lenW (W := 1) hZ hws11 (kI := 4) wo17 f15 f16 f17 hv13 (own_cod (by rfl) hrA) (own_wid hrA) (pS_COMPAC.ext f18.2) hcs (Nat.le_of_ble_eq_true rfl) (by decide) (by decide)) q11a q11c (g := (mkF m 35 #[rv ob, iv at_, rv st_, iv (at_ + 1), iv 0] [(.ref st_), (.int 0)])) rfl (by rw [hml]; rfl) (Steps.refl _) (argsL := []) (rest := [(.int 0)]) (lenOf pd_1 rfl) rfl (by show 2 * 0 + _ ≤ _; exact Nat.le_of_eq rfl) (hb hby d38_35) (fun _ _ => ⟨rfl, e7, (by decide : 0 + 0 ≤ _), (by decide : 0 + 0 ≤ _)⟩)
  dsimp only [Pt.U, Pt.locs, Pt.cells, Pt.slots] at X11 l11 y11 z11 st11 hQ11
  rw [l11, y11, z11] at X11
  obtain ⟨rfl, hl11, K11q⟩ := hQ11
  rw [hl11, List.append_nil] at X11
  have f19 := (pf_F_ob_records.other W7 (Or.inl pf_NE_ob_re))
  obtain ⟨T20, X20, e20, st20⟩ := getF X11 hx hZ hown (host := "") (Or.inl wo134) Via.refl K11q f19 (g := (mkF m 42 #[rv ob, iv at_, rv st_, iv (at_ + 1), iv 0] [(.ref ob)])) rfl rfl (hb hby d38_42)
  have f22 := (Nat.le_trans Z0 (Keep.of_wr W7).1)
  obtain ⟨_, _, ⟨T21, L21, k21, n21⟩, -, X21, ⟨Lc21, hQ21, l21, y21, z21⟩, st21⟩ := Jvm.LawKit.callS X20 hx (y := MN33) hown (mvT hZ wo162) (mvT hZ wo163) (mvT hZ wo123) (mvT hZ wo164) (by decide) (backOf (W := 2) (wd_1 l Z a0 hw [] st_ sv_ c0 cs fm h7 n0 f22 f18 pS_COMPAC hcs pS_SIOOBE rfm f15 f16 f17 f14 hrA) hZ wo164 wo123 (by decide) (by decide)) (g := (mkF m 52 #[rv ob, iv at_, rv st_, iv ((at_ + 1) + 1), iv 0] [(.int 0), (.ref st_), (.int (at_ + 1)), (.ref re)])) rfl (by rw [hml]; rfl) (argsL := [(.ref st_), (.int 0)]) (rest := [(.int (at_ + 1)), (.ref re)]) (lenOf pd_28 rfl) rfl (by show 2 * 0 + _ ≤ _; exact Nat.le_of_eq rfl) (hb hby d38_52) (fun _ _ => ⟨rfl, e20, (by decide : 0 + 0 ≤ _), (by decide : 0 + 0 ≤ _)⟩)
  dsimp only [Pt.U, Pt.locs, Pt.cells, Pt.slots] at X21 l21 y21 z21 st21 hQ21
  rw [l21, y21, z21] at X21
  obtain ⟨rfl, N21q, K21q⟩ := hQ21
  have N23 := Fr.app N10 N21q
  obtain ⟨kk24, cl24, Ar24, qq24, Sz24, Nn24, Hs24, Gf24⟩ := id f9
  have hin25 : ¬ ((at_ + 1) < 0 ∨ cl24.slots.size ≤ ((at_ + 1)).toNatClampNeg) := inb_of Sz24 (own_j hat).2
  obtain ⟨T26, h26, X26, e26, W26, st26⟩ := stI X21 hx hZ K21q Ar24 (j := (at_ + 1)) hin25 (g := (mkF m 55 #[rv ob, iv at_, rv st_, iv ((at_ + 1) + 1), iv 0] [(.int c0), (.int (at_ + 1)), (.ref re)])) rfl rfl (hb hby d38_55)
  have K27 : Keep h0 h26 [re] := (K8).wr W26 (Or.inl (own_m 0 rfl))
  have f28 : Av Z h26 re .int 64 (own_cv (own_s (own_s RL at_ (1 : Int32)) (at_ + 1) c0)) (.int 0) := by rw [← own_cvs]; exact ⟨_, Arv.set Ar24 qq24 Sz24 Nn24 Hs24 Gf24 rfl W26 _ rfl (own_ltp Sz24 hin25 ((own_sl _ _ _).trans hRL))⟩
  have N29 := Fr.snoc X26 N23 pf_G_re
  have f33 := (f14.other W26 pf_NE_sv__re)
  obtain ⟨kv31, hv32⟩ := id f33
  have f34 := (f15.wr W26)
  have f35 := (f16.other W26 (Or.inl pf_NE_st__re))
  have f36 := (f17.other W26 (Or.inl pf_NE_st__re))
  have hws30 : ∀ d ∈ StrChars.Road.wordsLen, d.before a0 Z = true := fun d hd => hw d ((by decide +kernel : ∀ d ∈ StrChars.Road.wordsLen, d ∈ tables_1) d hd)
  have f37 := (f18.wr W26 pf_G_re)
  obtain ⟨cq30, kq30, q30a, q30b, q30c⟩ := isOf hZ e26 f34
  obtain ⟨_, _, ⟨T30, L30, k30, n30⟩, -, X30, ⟨Lc30, hQ30, l30, y30, z30⟩, st30⟩ := X26.virtualBack hx (y := MN10) (z := MN10) hown (mvT hZ wo161) (mvT hZ wo50) (notFace_of_selects (args := #[]) (mvT hZ wo52)) (mvT hZ wo52) (mvT hZ wo51) (by decide) (StrChars.Road.lenW (W := 1) hZ hws30 (kI := 4) wo17 f34 f35 f36 hv32 (own_cod (by rfl) hrA) (own_wid hrA) (pS_COMPAC.ext f37.2) hcs (Nat.le_of_ble_eq_true rfl) (by decide) (by decide)) q30a q30c (g := (mkF m 35 #[rv ob, iv at_, rv st_, iv ((at_ + 1) + 1), iv 2] [(.ref st_), (.int 2)])) rfl (by rw [hml]; rfl) (Steps.refl _) (argsL := []) (rest := [(.int 2)]) (lenOf pd_1 rfl) rfl (by show 2 * 0 + _ ≤ _; exact Nat.le_of_eq rfl) (hb hby d38_35) (fun _ _ => ⟨rfl, e26, (by decide : 0 + 0 ≤ _), (by decide : 0 + 0 ≤ _)⟩)
  dsimp only [Pt.U, Pt.locs, Pt.cells, Pt.slots] at X30 l30 y30 z30 st30 hQ30
  rw [l30, y30, z30] at X30
  obtain ⟨rfl, hl30, K30q⟩ := hQ30
  rw [hl30, List.append_nil] at X30
  obtain ⟨fs, hr, hrun, hended, hW, hsame⟩ := X30.leave (v := some (.int ((at_ + 1) + 1))) (fun h => by rw [Bd.returns] at h; cases h)
  refine ⟨_, _, pre0 _ ?_, hrun, hended, _, _, rfl, ?_, ⟨_, rfl⟩, hW, hsame.mono (by decide) (by decide)⟩
  · show Steps _ _ _ (State.setTop _ (mkF m 0 #[rv ob, iv at_, rv st_, .unset, .unset] [])) _
    refine XS.aloadN X0.here hx rfl (hb hby d38_0) rfl rfl ?_
    show Steps _ _ _ (State.setTop _ (mkF m 1 #[rv ob, iv at_, rv st_, .unset, .unset] [(.ref st_)])) _
    refine XS.ifnonnullYes X0.here hx rfl (pc0 := 1) (pc' := 15) rfl (hb hby d38_1) rfl (by decide) (by decide) ?_
    refine XS.aloadN X0.here hx rfl (hb hby d38_15) rfl rfl ?_
    refine st1 _ ?_
    refine XS.iloadN X1.here hx rfl (hb hby d38_19) rfl ?_
    refine XS.aloadN X1.here hx rfl (hb hby d38_20) rfl rfl ?_
    refine st2.trans ?_
    refine st7 _ ?_
    refine XS.iloadN X7.here hx rfl (hb hby d38_25) rfl ?_
    refine XS.iconst X7.here hx rfl (hb hby d38_26) ?_
    show Steps _ _ _ (State.setTop _ (mkF m 27 #[rv ob, iv at_, rv st_, .unset, .unset] [(.int 1), (.int at_)])) _
    refine XS.iadd X7.here hx rfl (hb hby d38_27) rfl ?_
    refine XS.istoreN X7.here hx rfl (hb hby d38_28) rfl (l' := #[rv ob, iv at_, rv st_, iv (at_ + 1), .unset]) rfl ?_
    refine XS.iconst X7.here hx rfl (hb hby d38_29) ?_
    refine XS.istore X7.here hx rfl (hb hby d38_30) rfl (l' := #[rv ob, iv at_, rv st_, iv (at_ + 1), iv 0]) rfl ?_
    refine XS.iload X7.here hx rfl (hb hby d38_32) rfl ?_
    refine XS.aloadN X7.here hx rfl (hb hby d38_34) rfl rfl ?_
    refine st11.trans ?_
    refine XS.icmpNo X11.here hx rfl (hb hby d38_38) rfl (tlt (by decide : (0 : Int32) < 1)).2.1 ?_
    refine XS.aloadN X11.here hx rfl (hb hby d38_41) rfl rfl ?_
    show Steps _ _ _ (State.setTop _ (mkF m 42 #[rv ob, iv at_, rv st_, iv (at_ + 1), iv 0] [(.ref ob)])) _
    refine st20 _ ?_
    refine XS.iloadN X20.here hx rfl (hb hby d38_45) rfl ?_
    refine XS.iinc X20.here hx rfl (hb hby d38_46) rfl (l' := #[rv ob, iv at_, rv st_, iv ((at_ + 1) + 1), iv 0]) rfl ?_
    refine XS.aloadN X20.here hx rfl (hb hby d38_49) rfl rfl ?_
    refine XS.iload X20.here hx rfl (hb hby d38_50) rfl ?_
    refine st21 _ ?_
    refine st26 _ ?_
    refine XS.iinc X26.here hx rfl (hb hby d38_56) rfl (l' := #[rv ob, iv at_, rv st_, iv ((at_ + 1) + 1), iv 2]) rfl ?_
    refine XS.goto X26.here hx rfl (pc0 := 59) (pc' := 32) rfl (hb hby d38_59) (by decide) (by decide) ?_
    show Steps _ _ _ (State.setTop _ (mkF m 32 #[rv ob, iv at_, rv st_, iv ((at_ + 1) + 1), iv 2] [])) _
    refine XS.iload X26.here hx rfl (hb hby d38_32) rfl ?_
    refine XS.aloadN X26.here hx rfl (hb hby d38_34) rfl rfl ?_
    refine st30.trans ?_
    refine XS.icmpYes X30.here hx rfl (pc0 := 38) (pc' := 62) rfl (hb hby d38_38) rfl (flt (by decide : ¬ ((2 : Int32) < 1))).2.1 (by decide) (by decide) ?_
    refine XS.iloadN X30.here hx rfl (hb hby d38_62) rfl ?_
    show Steps _ _ _ (State.setTop _ (mkF m 63 #[rv ob, iv at_, rv st_, iv ((at_ + 1) + 1), iv 2] [(.int ((at_ + 1) + 1))])) _
    exact retI X30 hx Bd.returns (hb hby d38_63) hr
  · show Q_wt_1 Z _ _ _ _ _ _ _ _ _ h0 n0 _ T30.heap _
    rw [K30q]
    exact ⟨rfl, N29, (K27), f28⟩
theorem ef_wt_2 (m : MethodId) (x0 : Addr) (x1 : Int32) (x2 : Addr) : entryFrame m #[(.ref x0), (.int x1), (.ref x2)] 5 = mkF m 0 #[rv x0, iv x1, rv x2, .unset, .unset] [] := by first | (simp [entryFrame, mkF, argsToLocals, Value.category]; done) | rfl
def Q_wt_2 (Z : State) (at_ : Int32) (ob re : Addr) (RL : List Int32) (st_ sv_ : Addr) (c0 c1 cs : Int32) (fm : Value) (h0 : Heap) (n0 : Nat) (v : Option Value) (h : Heap) (L : List Loc) : Prop := v = some (.int ((at_ + 1) + 1)) ∧ Fr n0 L ∧ Keep h0 h [re] ∧ (Av Z h re .int 64 (own_cv (own_s (own_s RL at_ (2 : Int32)) (at_ + 1) (c0 ||| (c1 <<< ((16 : Int32) &&& 31))))) (.int 0))
set_option maxRecDepth 65536 in
set_option maxHeartbeats 40000000 in
theorem wt_2 (l : Launch) (Z : State) (a0 : Array Value) (hw : ∀ d ∈ tables_1, d.before a0 Z = true) (ws : List Jvm.Cond) (at_ : Int32) (ob re : Addr) (RL : List Int32) (st_ sv_ : Addr) (c0 c1 cs : Int32) (fm : Value) (h0 : Heap) (n0 : Nat) (Z0 : n0 ≤ h0.size) (pf_O : Old Z n0 h0) (pS_COMPAC : Sta Z Z.heap "java/lang/String" "COMPACT_STRINGS" "Z" (.int cs)) (hcs : ¬ (cs = 0)) (pS_SIOOBE : Sta Z Z.heap "jdk/internal/util/Preconditions" "SIOOBE_FORMATTER" "Ljava/util/function/BiFunction;" fm) (rfm : fm.isRef = true) (pf_E_st_ : Exa Z h0 st_ "java/lang/String") (pf_F_st__value : Fld Z h0 st_ "java/lang/String" "value" "[B" (.ref sv_)) (pf_F_st__coder : Fld Z h0 st_ "java/lang/String" "coder" "B" (.int 0)) (pf_A_sv_ : Av Z h0 sv_ .byte (2 : Int32) (own_vs [c0, c1]) (.int 0)) (hrA : ∀ c ∈ ([c0, c1] : List Int32), ¬ c < 0 ∧ ¬ (255 : Int32) < c) (pf_F_ob_records : Fld Z h0 ob "com/example/arbiter/arbiter/OrdinalTable" "records" "[I" (.ref re)) (pf_A_re : Av Z h0 re .int 64 (own_cv RL) (.int 0)) (hRL : RL.length = 64) (pf_G_re : n0 ≤ re) (pf_NE_ob_re : ob ≠ re) (pf_NE_st__re : st_ ≠ re) (pf_NE_sv__re : sv_ ≠ re) (hat : 0 ≤ at_.toInt ∧ at_.toInt < 62) :
    MetFree l MN38 (head1 (Jvm.Cond.code MN38 prog_25_method_26_code 5 (some .int) :: ws) (Room.mk 5 0 0 70)) (fun a U => a = #[(.ref ob), (.int at_), (.ref st_)] ∧ Z.Warmed39 U.vm ∧ U.heap = h0) (fun _ _ _ _ _ => True) (fun _ U o U' => ∃ v L, o = .returned v ∧ Q_wt_2 Z at_ ob re RL st_ sv_ c0 c1 cs fm h0 n0 v U'.heap L ∧ FrameEnd U o U' L (Room.mk 5 0 0 70).cells (Room.mk 5 0 0 70).slots) := by
  refine MetFree.of_bodySF (plainFor_of_name pn_com_example_arbiter_arbiter_OrdinalTable) hisR ?_
  intro p e s m args below meth c s₁ Bd hml0 hP hK
  obtain ⟨rfl, hZ, hh⟩ := hP
  have hx := Bd.exec
  have hby := Bd.bytes
  have hml : c.maxLocals = 5 := hml0
  have hown : s.vm.findClass "com/example/arbiter/arbiter/OrdinalTable" = some m.cls := findClass_of_methodNamed Bd.named
  have hnm := (name_of_methodNamed Bd.named Bd.method).1
  have X0 : Stand p l e (Room.mk 5 0 0 70) s m #[(.ref ob), (.int at_), (.ref st_)] below meth c s₁ [] 0 0 := Stand.of_body Bd
  have e0 : s₁.heap = h0 := by rw [← hh, Bd.state]; rfl
  have N0 := Fr.nil n0
  have pre0 : ∀ t, Steps p.tables e below (s₁.setTop (mkF m 0 #[rv ob, iv at_, rv st_, .unset, .unset] [])) t → Steps p.tables e below (s₁.setTop (entryFrame m #[(.ref ob), (.int at_), (.ref st_)] 5)) t := fun t k => castTop (ef_wt_2 m ob at_ st_) k
  have wo17 := hw _ (own_m 17 rfl)
  have wo50 := hw _ (own_m 50 rfl)
  have wo51 := hw _ (own_m 51 rfl)
  have wo52 := hw _ (own_m 52 rfl)
  have wo123 := hw _ (own_m 123 rfl)
  have wo134 := hw _ (own_m 134 rfl)
  have wo161 := hw _ (own_m 161 rfl)
  have wo162 := hw _ (own_m 162 rfl)
  have wo163 := hw _ (own_m 163 rfl)
  have wo164 := hw _ (own_m 164 rfl)
  obtain ⟨T1, X1, e1, st1⟩ := getF X0 hx hZ hown (host := "") (Or.inl wo134) Via.refl e0 pf_F_ob_records (g := (mkF m 16 #[rv ob, iv at_, rv st_, .unset, .unset] [(.ref ob)])) rfl rfl (hb hby d38_16)
  obtain ⟨kv3, hv4⟩ := id pf_A_sv_
  have hws2 : ∀ d ∈ StrChars.Road.wordsLen, d.before a0 Z = true := fun d hd => hw d ((by decide +kernel : ∀ d ∈ StrChars.Road.wordsLen, d ∈ tables_1) d hd)
  obtain ⟨cq2, kq2, q2a, q2b, q2c⟩ := isOf hZ e1 pf_E_st_
  obtain ⟨_, _, ⟨T2, L2, k2, n2⟩, -, X2, ⟨Lc2, hQ2, l2, y2, z2⟩, st2⟩ := X1.virtualBack hx (y := MN10) (z := MN10) hown (mvT hZ wo161) (mvT hZ wo50) (notFace_of_selects (args := #[]) (mvT hZ wo52)) (mvT hZ wo52) (mvT hZ wo51) (by decide) (StrChars.Road.lenW (W := 2) hZ hws2 (kI := 4) wo17 pf_E_st_ pf_F_st__value pf_F_st__coder hv4 (own_cod (by rfl) hrA) (own_wid hrA) (pS_COMPAC.ext pf_O.2) hcs (Nat.le_of_ble_eq_true rfl) (by decide) (by decide)) q2a q2c (g := (mkF m 21 #[rv ob, iv at_, rv st_, .unset, .unset] [(.ref st_), (.int at_), (.ref re)])) rfl (by rw [hml]; rfl) (Steps.refl _) (argsL := []) (rest := [(.int at_), (.ref re)]) (lenOf pd_1 rfl) rfl (by show 2 * 0 + _ ≤ _; exact Nat.le_of_eq rfl) (hb hby d38_21) (fun _ _ => ⟨rfl, e1, (by decide : 0 + 0 ≤ _), (by decide : 0 + 0 ≤ _)⟩)
  dsimp only [Pt.U, Pt.locs, Pt.cells, Pt.slots] at X2 l2 y2 z2 st2 hQ2
  rw [l2, y2, z2] at X2
  obtain ⟨rfl, hl2, K2q⟩ := hQ2
  rw [hl2, List.append_nil] at X2
  obtain ⟨kk5, cl5, Ar5, qq5, Sz5, Nn5, Hs5, Gf5⟩ := id pf_A_re
  have hin6 : ¬ (at_ < 0 ∨ cl5.slots.size ≤ (at_).toNatClampNeg) := inb_of Sz5 (own_j hat).1
  obtain ⟨T7, h7, X7, e7, W7, st7⟩ := stI X2 hx hZ K2q Ar5 (j := at_) hin6 (g := (mkF m 24 #[rv ob, iv at_, rv st_, .unset, .unset] [(.int 2), (.int at_), (.ref re)])) rfl rfl (hb hby d38_24)
  have K8 : Keep h0 h7 [re] := (Keep.refl h0 [re]).wr W7 (Or.inl (own_m 0 rfl))
  have f9 : Av Z h7 re .int 64 (own_cv (own_s RL at_ (2 : Int32))) (.int 0) := by rw [← own_cvs]; exact ⟨_, Arv.set Ar5 qq5 Sz5 Nn5 Hs5 Gf5 rfl W7 _ rfl (own_ltp Sz5 hin6 hRL)⟩
  have N10 := Fr.snoc X7 N0 pf_G_re
  have f14 := (pf_A_sv_.other W7 pf_NE_sv__re)
  obtain ⟨kv12, hv13⟩ := id f14
  have f15 := (pf_E_st_.wr W7)
  have f16 := (pf_F_st__value.other W7 (Or.inl pf_NE_st__re))
  have f17 := (pf_F_st__coder.other W7 (Or.inl pf_NE_st__re))
  have hws11 : ∀ d ∈ StrChars.Road.wordsLen, d.before a0 Z = true := fun d hd => hw d ((by decide +kernel : ∀ d ∈ StrChars.Road.wordsLen, d ∈ tables_1) d hd)
  have f18 := (pf_O.wr W7 pf_G_re)
  obtain ⟨cq11, kq11, q11a, q11b, q11c⟩ := isOf hZ e7 f15
  obtain ⟨_, _, ⟨T11, L11, k11, n11⟩, -, X11, ⟨Lc11, hQ11, l11, y11, z11⟩, st11⟩ := X7.virtualBack hx (y := MN10) (z := MN10) hown (mvT hZ wo161) (mvT hZ wo50) (notFace_of_selects (args := #[]) (mvT hZ wo52)) (mvT hZ wo52) (mvT hZ wo51) (by decide) (StrChars.Road.lenW (W := 1) hZ hws11 (kI := 4) wo17 f15 f16 f17 hv13 (own_cod (by rfl) hrA) (own_wid hrA) (pS_COMPAC.ext f18.2) hcs (Nat.le_of_ble_eq_true rfl) (by decide) (by decide)) q11a q11c (g := (mkF m 35 #[rv ob, iv at_, rv st_, iv (at_ + 1), iv 0] [(.ref st_), (.int 0)])) rfl (by rw [hml]; rfl) (Steps.refl _) (argsL := []) (rest := [(.int 0)]) (lenOf pd_1 rfl) rfl (by show 2 * 0 + _ ≤ _; exact Nat.le_of_eq rfl) (hb hby d38_35) (fun _ _ => ⟨rfl, e7, (by decide : 0 + 0 ≤ _), (by decide : 0 + 0 ≤ _)⟩)
  dsimp only [Pt.U, Pt.locs, Pt.cells, Pt.slots] at X11 l11 y11 z11 st11 hQ11
  rw [l11, y11, z11] at X11
  obtain ⟨rfl, hl11, K11q⟩ := hQ11
  rw [hl11, List.append_nil] at X11
  have f19 := (pf_F_ob_records.other W7 (Or.inl pf_NE_ob_re))
  obtain ⟨T20, X20, e20, st20⟩ := getF X11 hx hZ hown (host := "") (Or.inl wo134) Via.refl K11q f19 (g := (mkF m 42 #[rv ob, iv at_, rv st_, iv (at_ + 1), iv 0] [(.ref ob)])) rfl rfl (hb hby d38_42)
  have f22 := (Nat.le_trans Z0 (Keep.of_wr W7).1)
  obtain ⟨_, _, ⟨T21, L21, k21, n21⟩, -, X21, ⟨Lc21, hQ21, l21, y21, z21⟩, st21⟩ := Jvm.LawKit.callS X20 hx (y := MN33) hown (mvT hZ wo162) (mvT hZ wo163) (mvT hZ wo123) (mvT hZ wo164) (by decide) (backOf (W := 2) (wd_2 l Z a0 hw [] st_ sv_ c0 c1 cs fm h7 n0 f22 f18 pS_COMPAC hcs pS_SIOOBE rfm f15 f16 f17 f14 hrA) hZ wo164 wo123 (by decide) (by decide)) (g := (mkF m 52 #[rv ob, iv at_, rv st_, iv ((at_ + 1) + 1), iv 0] [(.int 0), (.ref st_), (.int (at_ + 1)), (.ref re)])) rfl (by rw [hml]; rfl) (argsL := [(.ref st_), (.int 0)]) (rest := [(.int (at_ + 1)), (.ref re)]) (lenOf pd_28 rfl) rfl (by show 2 * 0 + _ ≤ _; exact Nat.le_of_eq rfl) (hb hby d38_52) (fun _ _ => ⟨rfl, e20, (by decide : 0 + 0 ≤ _), (by decide : 0 + 0 ≤ _)⟩)
  dsimp only [Pt.U, Pt.locs, Pt.cells, Pt.slots] at X21 l21 y21 z21 st21 hQ21
  rw [l21, y21, z21] at X21
  obtain ⟨rfl, N21q, K21q⟩ := hQ21
  have N23 := Fr.app N10 N21q
  obtain ⟨kk24, cl24, Ar24, qq24, Sz24, Nn24, Hs24, Gf24⟩ := id f9
  have hin25 : ¬ ((at_ + 1) < 0 ∨ cl24.slots.size ≤ ((at_ + 1)).toNatClampNeg) := inb_of Sz24 (own_j hat).2
  obtain ⟨T26, h26, X26, e26, W26, st26⟩ := stI X21 hx hZ K21q Ar24 (j := (at_ + 1)) hin25 (g := (mkF m 55 #[rv ob, iv at_, rv st_, iv ((at_ + 1) + 1), iv 0] [(.int (c0 ||| (c1 <<< ((16 : Int32) &&& 31)))), (.int (at_ + 1)), (.ref re)])) rfl rfl (hb hby d38_55)
  have K27 : Keep h0 h26 [re] := (K8).wr W26 (Or.inl (own_m 0 rfl))
  have f28 : Av Z h26 re .int 64 (own_cv (own_s (own_s RL at_ (2 : Int32)) (at_ + 1) (c0 ||| (c1 <<< ((16 : Int32) &&& 31))))) (.int 0) := by rw [← own_cvs]; exact ⟨_, Arv.set Ar24 qq24 Sz24 Nn24 Hs24 Gf24 rfl W26 _ rfl (own_ltp Sz24 hin25 ((own_sl _ _ _).trans hRL))⟩
  have N29 := Fr.snoc X26 N23 pf_G_re
  have f33 := (f14.other W26 pf_NE_sv__re)
  obtain ⟨kv31, hv32⟩ := id f33
  have f34 := (f15.wr W26)
  have f35 := (f16.other W26 (Or.inl pf_NE_st__re))
  have f36 := (f17.other W26 (Or.inl pf_NE_st__re))
  have hws30 : ∀ d ∈ StrChars.Road.wordsLen, d.before a0 Z = true := fun d hd => hw d ((by decide +kernel : ∀ d ∈ StrChars.Road.wordsLen, d ∈ tables_1) d hd)
  have f37 := (f18.wr W26 pf_G_re)
  obtain ⟨cq30, kq30, q30a, q30b, q30c⟩ := isOf hZ e26 f34
  obtain ⟨_, _, ⟨T30, L30, k30, n30⟩, -, X30, ⟨Lc30, hQ30, l30, y30, z30⟩, st30⟩ := X26.virtualBack hx (y := MN10) (z := MN10) hown (mvT hZ wo161) (mvT hZ wo50) (notFace_of_selects (args := #[]) (mvT hZ wo52)) (mvT hZ wo52) (mvT hZ wo51) (by decide) (StrChars.Road.lenW (W := 1) hZ hws30 (kI := 4) wo17 f34 f35 f36 hv32 (own_cod (by rfl) hrA) (own_wid hrA) (pS_COMPAC.ext f37.2) hcs (Nat.le_of_ble_eq_true rfl) (by decide) (by decide)) q30a q30c (g := (mkF m 35 #[rv ob, iv at_, rv st_, iv ((at_ + 1) + 1), iv 2] [(.ref st_), (.int 2)])) rfl (by rw [hml]; rfl) (Steps.refl _) (argsL := []) (rest := [(.int 2)]) (lenOf pd_1 rfl) rfl (by show 2 * 0 + _ ≤ _; exact Nat.le_of_eq rfl) (hb hby d38_35) (fun _ _ => ⟨rfl, e26, (by decide : 0 + 0 ≤ _), (by decide : 0 + 0 ≤ _)⟩)
  dsimp only [Pt.U, Pt.locs, Pt.cells, Pt.slots] at X30 l30 y30 z30 st30 hQ30
  rw [l30, y30, z30] at X30
  obtain ⟨rfl, hl30, K30q⟩ := hQ30
  rw [hl30, List.append_nil] at X30
  obtain ⟨fs, hr, hrun, hended, hW, hsame⟩ := X30.leave (v := some (.int ((at_ + 1) + 1))) (fun h => by rw [Bd.returns] at h; cases h)
  refine ⟨_, _, pre0 _ ?_, hrun, hended, _, _, rfl, ?_, ⟨_, rfl⟩, hW, hsame.mono (by decide) (by decide)⟩
  · show Steps _ _ _ (State.setTop _ (mkF m 0 #[rv ob, iv at_, rv st_, .unset, .unset] [])) _
    refine XS.aloadN X0.here hx rfl (hb hby d38_0) rfl rfl ?_
    show Steps _ _ _ (State.setTop _ (mkF m 1 #[rv ob, iv at_, rv st_, .unset, .unset] [(.ref st_)])) _
    refine XS.ifnonnullYes X0.here hx rfl (pc0 := 1) (pc' := 15) rfl (hb hby d38_1) rfl (by decide) (by decide) ?_
    refine XS.aloadN X0.here hx rfl (hb hby d38_15) rfl rfl ?_
    refine st1 _ ?_
    refine XS.iloadN X1.here hx rfl (hb hby d38_19) rfl ?_
    refine XS.aloadN X1.here hx rfl (hb hby d38_20) rfl rfl ?_
    refine st2.trans ?_
    refine st7 _ ?_
    refine XS.iloadN X7.here hx rfl (hb hby d38_25) rfl ?_
    refine XS.iconst X7.here hx rfl (hb hby d38_26) ?_
    show Steps _ _ _ (State.setTop _ (mkF m 27 #[rv ob, iv at_, rv st_, .unset, .unset] [(.int 1), (.int at_)])) _
    refine XS.iadd X7.here hx rfl (hb hby d38_27) rfl ?_
    refine XS.istoreN X7.here hx rfl (hb hby d38_28) rfl (l' := #[rv ob, iv at_, rv st_, iv (at_ + 1), .unset]) rfl ?_
    refine XS.iconst X7.here hx rfl (hb hby d38_29) ?_
    refine XS.istore X7.here hx rfl (hb hby d38_30) rfl (l' := #[rv ob, iv at_, rv st_, iv (at_ + 1), iv 0]) rfl ?_
    refine XS.iload X7.here hx rfl (hb hby d38_32) rfl ?_
    refine XS.aloadN X7.here hx rfl (hb hby d38_34) rfl rfl ?_
    refine st11.trans ?_
    refine XS.icmpNo X11.here hx rfl (hb hby d38_38) rfl (tlt (by decide : (0 : Int32) < 2)).2.1 ?_
    refine XS.aloadN X11.here hx rfl (hb hby d38_41) rfl rfl ?_
    show Steps _ _ _ (State.setTop _ (mkF m 42 #[rv ob, iv at_, rv st_, iv (at_ + 1), iv 0] [(.ref ob)])) _
    refine st20 _ ?_
    refine XS.iloadN X20.here hx rfl (hb hby d38_45) rfl ?_
    refine XS.iinc X20.here hx rfl (hb hby d38_46) rfl (l' := #[rv ob, iv at_, rv st_, iv ((at_ + 1) + 1), iv 0]) rfl ?_
    refine XS.aloadN X20.here hx rfl (hb hby d38_49) rfl rfl ?_
    refine XS.iload X20.here hx rfl (hb hby d38_50) rfl ?_
    refine st21 _ ?_
    refine st26 _ ?_
    refine XS.iinc X26.here hx rfl (hb hby d38_56) rfl (l' := #[rv ob, iv at_, rv st_, iv ((at_ + 1) + 1), iv 2]) rfl ?_
    refine XS.goto X26.here hx rfl (pc0 := 59) (pc' := 32) rfl (hb hby d38_59) (by decide) (by decide) ?_
    show Steps _ _ _ (State.setTop _ (mkF m 32 #[rv ob, iv at_, rv st_, iv ((at_ + 1) + 1), iv 2] [])) _
    refine XS.iload X26.here hx rfl (hb hby d38_32) rfl ?_
    refine XS.aloadN X26.here hx rfl (hb hby d38_34) rfl rfl ?_
    refine st30.trans ?_
    refine XS.icmpYes X30.here hx rfl (pc0 := 38) (pc' := 62) rfl (hb hby d38_38) rfl (flt (by decide : ¬ ((2 : Int32) < 2))).2.1 (by decide) (by decide) ?_
    refine XS.iloadN X30.here hx rfl (hb hby d38_62) rfl ?_
    show Steps _ _ _ (State.setTop _ (mkF m 63 #[rv ob, iv at_, rv st_, iv ((at_ + 1) + 1), iv 2] [(.int ((at_ + 1) + 1))])) _
    exact retI X30 hx Bd.returns (hb hby d38_63) hr
  · show Q_wt_2 Z _ _ _ _ _ _ _ _ _ _ h0 n0 _ T30.heap _
    rw [K30q]
    exact ⟨rfl, N29, (K27), f28⟩
theorem d38_4 : decode prog_25_method_26_code 4 = .ok (.aload_n 0, 1) := by decide +kernel
theorem d38_5 : decode prog_25_method_26_code 5 = .ok (.getfield 30, 3) := by decide +kernel
theorem d38_8 : decode prog_25_method_26_code 8 = .ok (.iload_n 1, 1) := by decide +kernel
theorem d38_9 : decode prog_25_method_26_code 9 = .ok (.iconst 0, 1) := by decide +kernel
theorem d38_10 : decode prog_25_method_26_code 10 = .ok (.iastore, 1) := by decide +kernel
theorem d38_11 : decode prog_25_method_26_code 11 = .ok (.iload_n 1, 1) := by decide +kernel
theorem d38_12 : decode prog_25_method_26_code 12 = .ok (.iconst 1, 1) := by decide +kernel
theorem d38_13 : decode prog_25_method_26_code 13 = .ok (.iadd, 1) := by decide +kernel
theorem d38_14 : decode prog_25_method_26_code 14 = .ok (.ireturn, 1) := by decide +kernel
theorem ef_wt_N (m : MethodId) (x0 : Addr) (x1 : Int32) : entryFrame m #[(.ref x0), (.int x1), .null] 5 = mkF m 0 #[rv x0, iv x1, .val .null, .unset, .unset] [] := by first | (simp [entryFrame, mkF, argsToLocals, Value.category]; done) | rfl
def Q_wt_N (Z : State) (at_ : Int32) (ob re : Addr) (RL : List Int32) (h0 : Heap) (n0 : Nat) (v : Option Value) (h : Heap) (L : List Loc) : Prop := v = some (.int (at_ + 1)) ∧ Fr n0 L ∧ Keep h0 h [re] ∧ (Av Z h re .int 64 (own_cv (own_s RL at_ (0 : Int32))) (.int 0))
set_option maxRecDepth 65536 in
set_option maxHeartbeats 40000000 in
theorem wt_N (l : Launch) (Z : State) (a0 : Array Value) (hw : ∀ d ∈ tables_1, d.before a0 Z = true) (ws : List Jvm.Cond) (at_ : Int32) (ob re : Addr) (RL : List Int32) (h0 : Heap) (n0 : Nat) (Z0 : n0 ≤ h0.size) (pf_F_ob_records : Fld Z h0 ob "com/example/arbiter/arbiter/OrdinalTable" "records" "[I" (.ref re)) (pf_A_re : Av Z h0 re .int 64 (own_cv RL) (.int 0)) (hRL : RL.length = 64) (pf_G_re : n0 ≤ re) (hat : 0 ≤ at_.toInt ∧ at_.toInt < 62) :
    MetFree l MN38 (head1 (Jvm.Cond.code MN38 prog_25_method_26_code 5 (some .int) :: ws) (Room.mk 0 0 0 0)) (fun a U => a = #[(.ref ob), (.int at_), .null] ∧ Z.Warmed39 U.vm ∧ U.heap = h0) (fun _ _ _ _ _ => True) (fun _ U o U' => ∃ v L, o = .returned v ∧ Q_wt_N Z at_ ob re RL h0 n0 v U'.heap L ∧ FrameEnd U o U' L (Room.mk 0 0 0 0).cells (Room.mk 0 0 0 0).slots) := by
  refine MetFree.of_bodySF (plainFor_of_name pn_com_example_arbiter_arbiter_OrdinalTable) hisR ?_
  intro p e s m args below meth c s₁ Bd hml0 hP hK
  obtain ⟨rfl, hZ, hh⟩ := hP
  have hx := Bd.exec
  have hby := Bd.bytes
  have hml : c.maxLocals = 5 := hml0
  have hown : s.vm.findClass "com/example/arbiter/arbiter/OrdinalTable" = some m.cls := findClass_of_methodNamed Bd.named
  have hnm := (name_of_methodNamed Bd.named Bd.method).1
  have X0 : Stand p l e (Room.mk 0 0 0 0) s m #[(.ref ob), (.int at_), .null] below meth c s₁ [] 0 0 := Stand.of_body Bd
  have e0 : s₁.heap = h0 := by rw [← hh, Bd.state]; rfl
  have N0 := Fr.nil n0
  have pre0 : ∀ t, Steps p.tables e below (s₁.setTop (mkF m 0 #[rv ob, iv at_, .val .null, .unset, .unset] [])) t → Steps p.tables e below (s₁.setTop (entryFrame m #[(.ref ob), (.int at_), .null] 5)) t := fun t k => castTop (ef_wt_N m ob at_) k
  have wo134 := hw _ (own_m 134 rfl)
  obtain ⟨T1, X1, e1, st1⟩ := getF X0 hx hZ hown (host := "") (Or.inl wo134) Via.refl e0 pf_F_ob_records (g := (mkF m 5 #[rv ob, iv at_, .val .null, .unset, .unset] [(.ref ob)])) rfl rfl (hb hby d38_5)
  obtain ⟨kk2, cl2, Ar2, qq2, Sz2, Nn2, Hs2, Gf2⟩ := id pf_A_re
  have hin3 : ¬ (at_ < 0 ∨ cl2.slots.size ≤ (at_).toNatClampNeg) := inb_of Sz2 (own_j hat).1
  obtain ⟨T4, h4, X4, e4, W4, st4⟩ := stI X1 hx hZ e1 Ar2 (j := at_) hin3 (g := (mkF m 10 #[rv ob, iv at_, .val .null, .unset, .unset] [(.int 0), (.int at_), (.ref re)])) rfl rfl (hb hby d38_10)
  have K5 : Keep h0 h4 [re] := (Keep.refl h0 [re]).wr W4 (Or.inl (own_m 0 rfl))
  have f6 : Av Z h4 re .int 64 (own_cv (own_s RL at_ (0 : Int32))) (.int 0) := by rw [← own_cvs]; exact ⟨_, Arv.set Ar2 qq2 Sz2 Nn2 Hs2 Gf2 rfl W4 _ rfl (own_ltp Sz2 hin3 hRL)⟩
  have N7 := Fr.snoc X4 N0 pf_G_re
  obtain ⟨fs, hr, hrun, hended, hW, hsame⟩ := X4.leave (v := some (.int (at_ + 1))) (fun h => by rw [Bd.returns] at h; cases h)
  refine ⟨_, _, pre0 _ ?_, hrun, hended, _, _, rfl, ?_, ⟨_, rfl⟩, hW, hsame.mono (by decide) (by decide)⟩
  · show Steps _ _ _ (State.setTop _ (mkF m 0 #[rv ob, iv at_, .val .null, .unset, .unset] [])) _
    refine XS.aloadN X0.here hx rfl (hb hby d38_0) rfl rfl ?_
    show Steps _ _ _ (State.setTop _ (mkF m 1 #[rv ob, iv at_, .val .null, .unset, .unset] [.null])) _
    refine XS.ifnonnullNo X0.here hx rfl (hb hby d38_1) rfl ?_
    refine XS.aloadN X0.here hx rfl (hb hby d38_4) rfl rfl ?_
    refine st1 _ ?_
    refine XS.iloadN X1.here hx rfl (hb hby d38_8) rfl ?_
    refine XS.iconst X1.here hx rfl (hb hby d38_9) ?_
    refine st4 _ ?_
    refine XS.iloadN X4.here hx rfl (hb hby d38_11) rfl ?_
    refine XS.iconst X4.here hx rfl (hb hby d38_12) ?_
    refine XS.iadd X4.here hx rfl (hb hby d38_13) rfl ?_
    show Steps _ _ _ (State.setTop _ (mkF m 14 #[rv ob, iv at_, .val .null, .unset, .unset] [(.int (at_ + 1))])) _
    exact retI X4 hx Bd.returns (hb hby d38_14) hr
  · show Q_wt_N Z _ _ _ _ h0 n0 _ T4.heap _
    rw [e4]
    exact ⟨rfl, N7, (K5), f6⟩
theorem own_z0 {u : Int32} (h : 0 < u.toInt) : ¬ u = (0 : Int32) := fun e => by rw [e] at h; exact absurd h (by decide)
theorem own_fit {u n : Int32} (hu : 0 < u.toInt ∧ u.toInt < 20) (hn : 0 < n.toInt ∧ n.toInt < 5) : ¬ (64 : Int32) < (u + ((((1 : Int32) + n) + (2 : Int32)) + (1 : Int32))) := by
  have o1 : (1 : Int32).toInt = 1 := rfl
  have o2 : (2 : Int32).toInt = 2 := rfl
  have e1 : ((1 : Int32) + n).toInt = 1 + n.toInt := by rw [own_ad (by omega) (by omega), o1]
  have e2 : (((1 : Int32) + n) + (2 : Int32)).toInt = 3 + n.toInt := by rw [own_ad (by omega) (by omega), e1, o2]; omega
  have e3 : ((((1 : Int32) + n) + (2 : Int32)) + (1 : Int32)).toInt = 4 + n.toInt := by rw [own_ad (by omega) (by omega), e2, o1]; omega
  rw [Int32.lt_iff_toInt_lt, own_ad (by omega) (by omega), e3, show (64 : Int32).toInt = 64 from rfl]
  omega
theorem own_ix {u n : Int32} (hu : 0 < u.toInt ∧ u.toInt < 20) (hn : 0 < n.toInt ∧ n.toInt < 5) : (¬ u < 0 ∧ u < 64) ∧ (0 ≤ ((u + (1 : Int32)) + n).toInt ∧ ((u + (1 : Int32)) + n).toInt < 62) ∧ (0 ≤ ((((u + (1 : Int32)) + n) + (1 : Int32)) + (1 : Int32)).toInt ∧ ((((u + (1 : Int32)) + n) + (1 : Int32)) + (1 : Int32)).toInt < 62) ∧ (¬ ((((u + (1 : Int32)) + n) + (1 : Int32)) + (1 : Int32)) < 0 ∧ ((((u + (1 : Int32)) + n) + (1 : Int32)) + (1 : Int32)) < 64) := by
  obtain ⟨e1, e2, e3, e4, -⟩ := own_bd hu hn
  have o : (64 : Int32).toInt = 64 := rfl
  exact ⟨own_in (by rw [o]; omega), by rw [e2]; omega, by rw [e4]; omega, own_in (by rw [e4, o]; omega)⟩
theorem own_ixi {r n i : Int32} (hr : 0 < r.toInt ∧ r.toInt < 20) (hn : 0 < n.toInt ∧ n.toInt < 5) (hi : 0 ≤ i.toInt ∧ i.toInt < n.toInt) : ¬ ((r + (1 : Int32)) + i) < 0 ∧ ((r + (1 : Int32)) + i) < 64 := by
  obtain ⟨e1, -⟩ := own_bd hr hn
  exact own_in (by rw [own_ad (by omega) (by omega), e1, show (64 : Int32).toInt = 64 from rfl]; omega)
theorem own_cpb {u n : Int32} {RL OL : List Int32} (hu : 0 < u.toInt ∧ u.toInt < 20) (hn : 0 < n.toInt ∧ n.toInt < 5) (hl : RL.length = 64) : ¬ (u + (1 : Int32)) < 0 ∧ ¬ n < 0 ∧ (u + (1 : Int32)).toNatClampNeg + n.toNatClampNeg ≤ (64 : Int32).toNatClampNeg ∧ (u + (1 : Int32)).toNatClampNeg + n.toNatClampNeg ≤ (own_cv (own_s RL u n)).length := by
  obtain ⟨e1, -⟩ := own_bd hu hn
  have z : (0 : Int32).toInt = 0 := rfl
  refine ⟨?_, ?_, ?_, ?_⟩
  · rw [Int32.lt_iff_toInt_lt, e1, z]; omega
  · rw [Int32.lt_iff_toInt_lt, z]; omega
  · rw [show (64 : Int32).toNatClampNeg = 64 from rfl, own_tn, own_tn, e1]; omega
  · rw [own_cvlen, own_sl, hl, own_tn, own_tn, e1]; omega
/-- the table: empty; with one entry; with two -/
def own_T0 (SL RL : List Int32) : Prop := SL.length = 16 ∧ RL.length = 64 ∧ ∀ k : Int32, 0 ≤ k.toInt ∧ k.toInt < 8 → own_g SL (((2 : Int32) * k) + (1 : Int32)) = 0
def own_T1 (SL RL : List Int32) (h1 u1 n1 : Int32) (O1 : List Int32) (w1 : Int32) : Prop := SL.length = 16 ∧ RL.length = 64 ∧ own_g SL ((2 : Int32) * (h1 &&& (7 : Int32))) = h1 ∧ own_g SL (((2 : Int32) * (h1 &&& (7 : Int32))) + (1 : Int32)) = u1 ∧ (∀ k : Int32, 0 ≤ k.toInt ∧ k.toInt < 8 → ¬ k = (h1 &&& (7 : Int32)) → own_g SL (((2 : Int32) * k) + (1 : Int32)) = 0) ∧ own_R RL u1 n1 O1 (1 : Int32) w1
def own_T2 (SL RL : List Int32) (h1 u1 n1 : Int32) (O1 : List Int32) (w1 h2 u2 n2 : Int32) (O2 : List Int32) (w2 : Int32) : Prop := SL.length = 16 ∧ RL.length = 64 ∧ own_g SL ((2 : Int32) * (h1 &&& (7 : Int32))) = h1 ∧ own_g SL (((2 : Int32) * (h1 &&& (7 : Int32))) + (1 : Int32)) = u1 ∧ own_R RL u1 n1 O1 (1 : Int32) w1 ∧ own_g SL ((2 : Int32) * (own_sl2 h2 (h1 &&& (7 : Int32)))) = h2 ∧ own_g SL (((2 : Int32) * (own_sl2 h2 (h1 &&& (7 : Int32)))) + (1 : Int32)) = u2 ∧ own_R RL u2 n2 O2 (2 : Int32) w2
theorem own_T00 : own_T0 (List.replicate 16 (0 : Int32)) (List.replicate 64 (0 : Int32)) := ⟨rfl, rfl, fun k _ => by
  unfold own_g
  rw [List.getD_eq_getElem?_getD, List.getElem?_replicate]
  split <;> rfl⟩
theorem own_T01 {SL RL OL : List Int32} {h u n w : Int32} (T : own_T0 SL RL) (hu : 0 < u.toInt ∧ u.toInt < 20) (hn : 0 < n.toInt ∧ n.toInt < 5) (hO : OL.length = n.toNatClampNeg) : own_T1 (own_w2 SL (h &&& (7 : Int32)) h u) (own_wr RL u n OL (1 : Int32) w) h u n OL w := by
  obtain ⟨a, b, c⟩ := T
  have m := own_m7 h
  refine ⟨by rw [own_w2l, a], (own_wrl b hu hn hO).1, (own_w2a a m).1, (own_w2a a m).2, fun k hk ne => ?_, own_wrR b hu hn hO⟩
  rw [(own_w2b a m hk ne).2]; exact c k hk
theorem own_T12 {SL RL O1 O2 : List Int32} {h1 u1 n1 w1 h2 u2 n2 w2 : Int32} (T : own_T1 SL RL h1 u1 n1 O1 w1) (hu1 : 0 < u1.toInt ∧ u1.toInt < 20) (hn1 : 0 < n1.toInt ∧ n1.toInt < 5) (hu2 : 0 < u2.toInt ∧ u2.toInt < 20) (hu : u2.toInt = u1.toInt + 4 + n1.toInt) (hn2 : 0 < n2.toInt ∧ n2.toInt < 5) (hO : O2.length = n2.toNatClampNeg) : own_T2 (own_w2 SL (own_sl2 h2 (h1 &&& (7 : Int32))) h2 u2) (own_wr RL u2 n2 O2 (2 : Int32) w2) h1 u1 n1 O1 w1 h2 u2 n2 O2 w2 := by
  obtain ⟨a, b, c1, c2, d, R⟩ := T
  have m := own_m7 h1
  have m2 := own_sl2r h2 (h1 &&& (7 : Int32))
  have ne : ¬ (h1 &&& (7 : Int32)) = own_sl2 h2 (h1 &&& (7 : Int32)) := fun q => own_sl2n m q.symm
  refine ⟨by rw [own_w2l, a], (own_wrl b hu2 hn2 hO).1, ?_, ?_, ?_, (own_w2a a m2).1, (own_w2a a m2).2, own_wrR b hu2 hn2 hO⟩
  · rw [(own_w2b a m2 m ne).1]; exact c1
  · rw [(own_w2b a m2 m ne).2]; exact c2
  · exact own_Rk R hu1 hn1 hu (own_wrk b hu2 hn2 hO)
theorem own_n (x : Int32) : 0 < ((1 : Int32) + (x &&& (3 : Int32))).toInt ∧ ((1 : Int32) + (x &&& (3 : Int32))).toInt < 5 := by
  have e := c_mask x 3 2 (by decide) (by decide)
  have o : (1 : Int32).toInt = 1 := rfl
  rw [own_ad (by omega) (by omega), o]
  omega
theorem own_rm {x n : Int32} (hn : 0 < n.toInt ∧ n.toInt < 5) : 0 ≤ ((x &&& (3 : Int32)) % n).toInt ∧ ((x &&& (3 : Int32)) % n).toInt < n.toInt := by
  have e := c_mask x 3 2 (by decide) (by decide)
  have q := (c_iremV (x &&& (3 : Int32)) n).1 (by omega) hn.1
  exact ⟨q.1, q.2.1⟩
theorem own_ch (x : Int32) : (¬ (((33 : Int32) + ((x &&& (127 : Int32)) % (94 : Int32))).toUInt32.toUInt16.toUInt32.toInt32) < 0 ∧ ¬ (255 : Int32) < (((33 : Int32) + ((x &&& (127 : Int32)) % (94 : Int32))).toUInt32.toUInt16.toUInt32.toInt32)) ∧ (32 : Int32) < (((33 : Int32) + ((x &&& (127 : Int32)) % (94 : Int32))).toUInt32.toUInt16.toUInt32.toInt32) ∧ (((33 : Int32) + ((x &&& (127 : Int32)) % (94 : Int32))).toUInt32.toUInt16.toUInt32.toInt32) < (128 : Int32) := by
  have e := c_mask x 127 7 (by decide) (by decide)
  have o : (94 : Int32).toInt = 94 := rfl
  have o3 : (33 : Int32).toInt = 33 := rfl
  have q := (c_iremV (x &&& (127 : Int32)) 94).1 (by omega) (by decide)
  rw [o] at q
  have f : ((33 : Int32) + ((x &&& (127 : Int32)) % (94 : Int32))).toInt = 33 + ((x &&& (127 : Int32)) % (94 : Int32)).toInt := by rw [own_ad (by omega) (by omega), o3]
  have g : ¬ ((33 : Int32) + ((x &&& (127 : Int32)) % (94 : Int32))) < 0 ∧ ¬ (255 : Int32) < ((33 : Int32) + ((x &&& (127 : Int32)) % (94 : Int32))) := by
    rw [Int32.lt_iff_toInt_lt, Int32.lt_iff_toInt_lt, f]
    simp only [Int32.reduceToInt]
    omega
  rw [own_i2c g]
  refine ⟨g, ?_, ?_⟩
  · rw [Int32.lt_iff_toInt_lt, f]; simp only [Int32.reduceToInt]; omega
  · rw [Int32.lt_iff_toInt_lt, f]; simp only [Int32.reduceToInt]; omega
theorem own_two {c d : Int32} (hc : ¬ c < 0 ∧ ¬ (255 : Int32) < c) (hd : ¬ d < 0 ∧ ¬ (255 : Int32) < d) : ∀ z ∈ ([c, d] : List Int32), ¬ z < 0 ∧ ¬ (255 : Int32) < z := by
  intro z hz
  simp only [List.mem_cons, List.not_mem_nil, or_false] at hz
  rcases hz with rfl | rfl
  · exact hc
  · exact hd
theorem own_one {c : Int32} (hc : ¬ c < 0 ∧ ¬ (255 : Int32) < c) : ∀ z ∈ ([c] : List Int32), ¬ z < 0 ∧ ¬ (255 : Int32) < z := by
  intro z hz
  rw [List.mem_singleton] at hz
  rw [hz]; exact hc
theorem d36_0 : decode prog_25_method_25_code 0 = .ok (.iconst 1, 1) := by decide +kernel
theorem d36_1 : decode prog_25_method_25_code 1 = .ok (.aload_n 3, 1) := by decide +kernel
theorem d36_2 : decode prog_25_method_25_code 2 = .ok (.arraylength, 1) := by decide +kernel
theorem d36_3 : decode prog_25_method_25_code 3 = .ok (.iadd, 1) := by decide +kernel
theorem d36_4 : decode prog_25_method_25_code 4 = .ok (.aload_n 1, 1) := by decide +kernel
theorem d36_5 : decode prog_25_method_25_code 5 = .ok (.invokestatic 132, 3) := by decide +kernel
theorem d36_8 : decode prog_25_method_25_code 8 = .ok (.iadd, 1) := by decide +kernel
theorem d36_9 : decode prog_25_method_25_code 9 = .ok (.aload_n 2, 1) := by decide +kernel
theorem d36_10 : decode prog_25_method_25_code 10 = .ok (.invokestatic 132, 3) := by decide +kernel
theorem d36_13 : decode prog_25_method_25_code 13 = .ok (.iadd, 1) := by decide +kernel
theorem d36_14 : decode prog_25_method_25_code 14 = .ok (.istore 4, 2) := by decide +kernel
theorem d36_16 : decode prog_25_method_25_code 16 = .ok (.aload_n 0, 1) := by decide +kernel
theorem d36_17 : decode prog_25_method_25_code 17 = .ok (.getfield 33, 3) := by decide +kernel
theorem d36_20 : decode prog_25_method_25_code 20 = .ok (.iload 4, 2) := by decide +kernel
theorem d36_22 : decode prog_25_method_25_code 22 = .ok (.iadd, 1) := by decide +kernel
theorem d36_23 : decode prog_25_method_25_code 23 = .ok (.aload_n 0, 1) := by decide +kernel
theorem d36_24 : decode prog_25_method_25_code 24 = .ok (.getfield 30, 3) := by decide +kernel
theorem d36_27 : decode prog_25_method_25_code 27 = .ok (.arraylength, 1) := by decide +kernel
theorem d36_28 : decode prog_25_method_25_code 28 = .ok (.if_icmp .le 31, 3) := by decide +kernel
theorem d36_59 : decode prog_25_method_25_code 59 = .ok (.aload_n 0, 1) := by decide +kernel
theorem d36_60 : decode prog_25_method_25_code 60 = .ok (.getfield 33, 3) := by decide +kernel
theorem d36_63 : decode prog_25_method_25_code 63 = .ok (.istore 5, 2) := by decide +kernel
theorem d36_65 : decode prog_25_method_25_code 65 = .ok (.aload_n 0, 1) := by decide +kernel
theorem d36_66 : decode prog_25_method_25_code 66 = .ok (.getfield 30, 3) := by decide +kernel
theorem d36_69 : decode prog_25_method_25_code 69 = .ok (.iload 5, 2) := by decide +kernel
theorem d36_71 : decode prog_25_method_25_code 71 = .ok (.aload_n 3, 1) := by decide +kernel
theorem d36_72 : decode prog_25_method_25_code 72 = .ok (.arraylength, 1) := by decide +kernel
theorem d36_73 : decode prog_25_method_25_code 73 = .ok (.iastore, 1) := by decide +kernel
theorem d36_74 : decode prog_25_method_25_code 74 = .ok (.aload_n 3, 1) := by decide +kernel
theorem d36_75 : decode prog_25_method_25_code 75 = .ok (.iconst 0, 1) := by decide +kernel
theorem d36_76 : decode prog_25_method_25_code 76 = .ok (.aload_n 0, 1) := by decide +kernel
theorem d36_77 : decode prog_25_method_25_code 77 = .ok (.getfield 30, 3) := by decide +kernel
theorem d36_80 : decode prog_25_method_25_code 80 = .ok (.iload 5, 2) := by decide +kernel
theorem d36_82 : decode prog_25_method_25_code 82 = .ok (.iconst 1, 1) := by decide +kernel
theorem d36_83 : decode prog_25_method_25_code 83 = .ok (.iadd, 1) := by decide +kernel
theorem d36_84 : decode prog_25_method_25_code 84 = .ok (.aload_n 3, 1) := by decide +kernel
theorem d36_85 : decode prog_25_method_25_code 85 = .ok (.arraylength, 1) := by decide +kernel
theorem d36_86 : decode prog_25_method_25_code 86 = .ok (.invokestatic 46, 3) := by decide +kernel
theorem d36_89 : decode prog_25_method_25_code 89 = .ok (.aload_n 0, 1) := by decide +kernel
theorem d36_90 : decode prog_25_method_25_code 90 = .ok (.iload 5, 2) := by decide +kernel
theorem d36_92 : decode prog_25_method_25_code 92 = .ok (.iconst 1, 1) := by decide +kernel
theorem d36_93 : decode prog_25_method_25_code 93 = .ok (.iadd, 1) := by decide +kernel
theorem d36_94 : decode prog_25_method_25_code 94 = .ok (.aload_n 3, 1) := by decide +kernel
theorem d36_95 : decode prog_25_method_25_code 95 = .ok (.arraylength, 1) := by decide +kernel
theorem d36_96 : decode prog_25_method_25_code 96 = .ok (.iadd, 1) := by decide +kernel
theorem d36_97 : decode prog_25_method_25_code 97 = .ok (.aload_n 1, 1) := by decide +kernel
theorem d36_98 : decode prog_25_method_25_code 98 = .ok (.invokevirtual 140, 3) := by decide +kernel
theorem own_sel {args args1 : Array Value} {s : State} {y : MethodName} {k : Nat} (hp : s.PrivateAt y) (hi : (Jvm.Cond.instanceMethod y).before args s = true) (hn : (Jvm.Cond.instantiable y.cls k).before args1 s = true) (hy : y.cls ≠ "java/lang/invoke/MethodHandle" ∧ y.cls ≠ "java/lang/invoke/VarHandle") : (Jvm.Cond.selects y.cls y y).before args s = true := by
  obtain ⟨mk, methM, hnamed, hmethM, -, -⟩ := Cond.instanceMethod_spec hi
  obtain ⟨c, kc, h1, h2, h3, h4, -⟩ := Cond.instantiable_spec hn
  have hc := findClass_of_methodNamed hnamed
  cases h1.symm.trans hc
  have hf := State.methodFound?_of_named hnamed hy
  have hsel : selectMethod {} s.vm mk.cls mk = .method mk := selectMethod_private hmethM (hp mk methM hnamed hmethM)
  rw [Bool.or_eq_false_iff] at h4
  simp [Jvm.Cond.before, Jvm.Cond.holds, Jvm.Cond.value, hc, hf, hnamed, hsel, h2, h4.1]
theorem d36_101 : decode prog_25_method_25_code 101 = .ok (.istore 6, 2) := by decide +kernel
theorem d36_103 : decode prog_25_method_25_code 103 = .ok (.aload_n 0, 1) := by decide +kernel
theorem d36_104 : decode prog_25_method_25_code 104 = .ok (.aload_n 0, 1) := by decide +kernel
theorem d36_105 : decode prog_25_method_25_code 105 = .ok (.iload 6, 2) := by decide +kernel
theorem d36_107 : decode prog_25_method_25_code 107 = .ok (.aload_n 2, 1) := by decide +kernel
theorem d36_108 : decode prog_25_method_25_code 108 = .ok (.invokevirtual 140, 3) := by decide +kernel
theorem d36_111 : decode prog_25_method_25_code 111 = .ok (.putfield 33, 3) := by decide +kernel
theorem d36_114 : decode prog_25_method_25_code 114 = .ok (.iload 5, 2) := by decide +kernel
theorem d36_116 : decode prog_25_method_25_code 116 = .ok (.ireturn, 1) := by decide +kernel
theorem ef_wr_1 (m : MethodId) (x0 x1 x3 : Addr) : entryFrame m #[(.ref x0), (.ref x1), .null, (.ref x3)] 7 = mkF m 0 #[rv x0, rv x1, .val .null, rv x3, .unset, .unset, .unset] [] := by first | (simp [entryFrame, mkF, argsToLocals, Value.category]; done) | rfl
def Q_wr_1 (Z : State) (ob re : Addr) (RL : List Int32) (u_ : Int32) (sl va : Addr) (sd sz_ : Int32) (od : Addr) (OL : List Int32) (n_ : Int32) (st_ sv_ : Addr) (c0 cs : Int32) (fm : Value) (h0 : Heap) (n0 : Nat) (v : Option Value) (h : Heap) (L : List Loc) : Prop := v = some (.int u_) ∧ Fr n0 L ∧ Keep h0 h [ob, re] ∧ (Fld Z h ob "com/example/arbiter/arbiter/OrdinalTable" "records" "[I" (.ref re)) ∧ (Fld Z h ob "com/example/arbiter/arbiter/OrdinalTable" "slots" "[I" (.ref sl)) ∧ (Fld Z h ob "com/example/arbiter/arbiter/OrdinalTable" "values" "[Ljava/lang/Object;" (.ref va)) ∧ (Fld Z h ob "com/example/arbiter/arbiter/OrdinalTable" "seed" "I" (.int sd)) ∧ (Fld Z h ob "com/example/arbiter/arbiter/OrdinalTable" "unused" "I" (.int 0)) ∧ (Fld Z h ob "com/example/arbiter/arbiter/OrdinalTable" "size" "I" (.int sz_)) ∧ (Fld Z h ob "com/example/arbiter/arbiter/OrdinalTable" "used" "I" (.int (((((u_ + 1) + n_) + 1) + 1) + 1))) ∧ (Av Z h re .int 64 (own_cv (own_wr RL u_ n_ OL (1 : Int32) c0)) (.int 0))
set_option maxRecDepth 65536 in
set_option maxHeartbeats 40000000 in
theorem wr_1 (l : Launch) (Z : State) (a0 : Array Value) (hw : ∀ d ∈ tables_1, d.before a0 Z = true) (ws : List Jvm.Cond) (ob re : Addr) (RL : List Int32) (u_ : Int32) (sl va : Addr) (sd sz_ : Int32) (od : Addr) (OL : List Int32) (n_ : Int32) (st_ sv_ : Addr) (c0 cs : Int32) (fm : Value) (h0 : Heap) (n0 : Nat) (Z0 : n0 ≤ h0.size) (pf_O : Old Z n0 h0) (pS_COMPAC : Sta Z Z.heap "java/lang/String" "COMPACT_STRINGS" "Z" (.int cs)) (hcs : ¬ (cs = 0)) (pS_SIOOBE : Sta Z Z.heap "jdk/internal/util/Preconditions" "SIOOBE_FORMATTER" "Ljava/util/function/BiFunction;" fm) (rfm : fm.isRef = true) (pf_E_st_ : Exa Z h0 st_ "java/lang/String") (pf_F_st__value : Fld Z h0 st_ "java/lang/String" "value" "[B" (.ref sv_)) (pf_F_st__coder : Fld Z h0 st_ "java/lang/String" "coder" "B" (.int 0)) (pf_A_sv_ : Av Z h0 sv_ .byte (1 : Int32) (own_vs [c0]) (.int 0)) (hrA : ∀ c ∈ ([c0] : List Int32), ¬ c < 0 ∧ ¬ (255 : Int32) < c) (pf_E_ob : Exa Z h0 ob "com/example/arbiter/arbiter/OrdinalTable") (pf_F_ob_records : Fld Z h0 ob "com/example/arbiter/arbiter/OrdinalTable" "records" "[I" (.ref re)) (pf_A_re : Av Z h0 re .int 64 (own_cv RL) (.int 0)) (pf_F_ob_used : Fld Z h0 ob "com/example/arbiter/arbiter/OrdinalTable" "used" "I" (.int u_)) (pf_F_ob_slots : Fld Z h0 ob "com/example/arbiter/arbiter/OrdinalTable" "slots" "[I" (.ref sl)) (pf_F_ob_values : Fld Z h0 ob "com/example/arbiter/arbiter/OrdinalTable" "values" "[Ljava/lang/Object;" (.ref va)) (pf_F_ob_seed : Fld Z h0 ob "com/example/arbiter/arbiter/OrdinalTable" "seed" "I" (.int sd)) (pf_F_ob_unused : Fld Z h0 ob "com/example/arbiter/arbiter/OrdinalTable" "unused" "I" (.int 0)) (pf_F_ob_size : Fld Z h0 ob "com/example/arbiter/arbiter/OrdinalTable" "size" "I" (.int sz_)) (hRL : RL.length = 64) (pf_A_od : Av Z h0 od .int n_ (own_cv OL) (.int 0)) (hu : 0 < u_.toInt ∧ u_.toInt < 20) (hn : 0 < n_.toInt ∧ n_.toInt < 5) (hOL : OL.length = n_.toNatClampNeg) (pf_G_ob : n0 ≤ ob) (pf_G_re : n0 ≤ re) (pf_NE_ob_re : ob ≠ re) (pf_NE_st__ob : st_ ≠ ob) (pf_NE_st__re : st_ ≠ re) (pf_NE_sv__ob : sv_ ≠ ob) (pf_NE_sv__re : sv_ ≠ re) (pf_NE_od_ob : od ≠ ob) (pf_NE_od_re : od ≠ re) :
    MetFree l MN36 (head1 (Jvm.Cond.code MN36 prog_25_method_25_code 7 (some .int) :: ws) (Room.mk 6 0 0 85)) (fun a U => a = #[(.ref ob), (.ref st_), .null, (.ref od)] ∧ Z.Warmed39 U.vm ∧ U.heap = h0) (fun _ _ _ _ _ => True) (fun _ U o U' => ∃ v L, o = .returned v ∧ Q_wr_1 Z ob re RL u_ sl va sd sz_ od OL n_ st_ sv_ c0 cs fm h0 n0 v U'.heap L ∧ FrameEnd U o U' L (Room.mk 6 0 0 85).cells (Room.mk 6 0 0 85).slots) := by
  refine MetFree.of_bodySF (plainFor_of_name pn_com_example_arbiter_arbiter_OrdinalTable) hisR ?_
  intro p e s m args below meth c s₁ Bd hml0 hP hK
  obtain ⟨rfl, hZ, hh⟩ := hP
  have hx := Bd.exec
  have hby := Bd.bytes
  have hml : c.maxLocals = 7 := hml0
  have hown : s.vm.findClass "com/example/arbiter/arbiter/OrdinalTable" = some m.cls := findClass_of_methodNamed Bd.named
  have hnm := (name_of_methodNamed Bd.named Bd.method).1
  have X0 : Stand p l e (Room.mk 6 0 0 85) s m #[(.ref ob), (.ref st_), .null, (.ref od)] below meth c s₁ [] 0 0 := Stand.of_body Bd
  have e0 : s₁.heap = h0 := by rw [← hh, Bd.state]; rfl
  have N0 := Fr.nil n0
  have pre0 : ∀ t, Steps p.tables e below (s₁.setTop (mkF m 0 #[rv ob, rv st_, .val .null, rv od, .unset, .unset, .unset] [])) t → Steps p.tables e below (s₁.setTop (entryFrame m #[(.ref ob), (.ref st_), .null, (.ref od)] 7)) t := fun t k => castTop (ef_wr_1 m ob st_ od) k
  have wo122 := hw _ (own_m 122 rfl)
  have wo123 := hw _ (own_m 123 rfl)
  have wo129 := hw _ (own_m 129 rfl)
  have wo133 := hw _ (own_m 133 rfl)
  have wo134 := hw _ (own_m 134 rfl)
  have wo135 := hw _ (own_m 135 rfl)
  have wo136 := hw _ (own_m 136 rfl)
  have wo137 := hw _ (own_m 137 rfl)
  have wo139 := hw _ (own_m 139 rfl)
  have wo173 := hw _ (own_m 173 rfl)
  have wo182 := hw _ (own_m 182 rfl)
  have wo183 := hw _ (own_m 183 rfl)
  have wo184 := hw _ (own_m 184 rfl)
  have wo185 := hw _ (own_m 185 rfl)
  have wo186 := hw _ (own_m 186 rfl)
  have wo187 := hw _ (own_m 187 rfl)
  have wo188 := hw _ (own_m 188 rfl)
  have wo189 := hw _ (own_m 189 rfl)
  have wo190 := hw _ (own_m 190 rfl)
  have wo191 := hw _ (own_m 191 rfl)
  have wo192 := hw _ (own_m 192 rfl)
  have wo198 := hw _ (own_m 198 rfl)
  obtain ⟨kk1, cl1, Ar1, qq1, Sz1, Nn1, Hs1, Gf1⟩ := id pf_A_od
  obtain ⟨_, _, ⟨T2, L2, k2, n2⟩, -, X2, ⟨Lc2, hQ2, l2, y2, z2⟩, st2⟩ := Jvm.LawKit.callS X0 hx (y := MN37) hown (mvT hZ wo182) (mvT hZ wo183) (mvT hZ wo123) (mvT hZ wo184) (by decide) (backOf (W := 1) (tl_1 l Z a0 hw [] st_ sv_ c0 cs fm h0 n0 Z0 pf_O pS_COMPAC hcs pS_SIOOBE rfm pf_E_st_ pf_F_st__value pf_F_st__coder pf_A_sv_ hrA) hZ wo184 wo123 (by decide) (by decide)) (g := (mkF m 5 #[rv ob, rv st_, .val .null, rv od, .unset, .unset, .unset] [(.ref st_), (.int ((1 : Int32) + n_))])) rfl (by rw [hml]; rfl) (argsL := [(.ref st_)]) (rest := [(.int ((1 : Int32) + n_))]) (lenOf pd_25 rfl) rfl (by show 2 * 0 + _ ≤ _; exact Nat.le_of_eq rfl) (hb hby d36_5) (fun _ _ => ⟨rfl, e0, (by decide : 0 + 0 ≤ _), (by decide : 0 + 0 ≤ _)⟩)
  dsimp only [Pt.U, Pt.locs, Pt.cells, Pt.slots] at X2 l2 y2 z2 st2 hQ2
  rw [l2, y2, z2] at X2
  obtain ⟨rfl, N2q, K2q⟩ := hQ2
  have N3 := Fr.app N0 N2q
  obtain ⟨_, _, ⟨T4, L4, k4, n4⟩, -, X4, ⟨Lc4, hQ4, l4, y4, z4⟩, st4⟩ := Jvm.LawKit.callS X2 hx (y := MN37) hown (mvT hZ wo182) (mvT hZ wo183) (mvT hZ wo123) (mvT hZ wo184) (by decide) (backOf (W := 1) (tl_N l Z a0 hw []  h0 n0 Z0 ) hZ wo184 wo123 (by decide) (by decide)) (g := (mkF m 10 #[rv ob, rv st_, .val .null, rv od, .unset, .unset, .unset] [.null, (.int (((1 : Int32) + n_) + 2))])) rfl (by rw [hml]; rfl) (argsL := [.null]) (rest := [(.int (((1 : Int32) + n_) + 2))]) (lenOf pd_25 rfl) rfl (by show 2 * 0 + _ ≤ _; exact Nat.le_of_eq rfl) (hb hby d36_10) (fun _ _ => ⟨rfl, K2q, (by decide : 0 + 0 ≤ _), (by decide : 0 + 0 ≤ _)⟩)
  dsimp only [Pt.U, Pt.locs, Pt.cells, Pt.slots] at X4 l4 y4 z4 st4 hQ4
  rw [l4, y4, z4] at X4
  obtain ⟨rfl, N4q, K4q⟩ := hQ4
  have N5 := Fr.app N3 N4q
  obtain ⟨T6, X6, e6, st6⟩ := getF X4 hx hZ hown (host := "") (Or.inl wo136) Via.refl K4q pf_F_ob_used (g := (mkF m 17 #[rv ob, rv st_, .val .null, rv od, iv ((((1 : Int32) + n_) + 2) + 1), .unset, .unset] [(.ref ob)])) rfl rfl (hb hby d36_17)
  obtain ⟨T7, X7, e7, st7⟩ := getF X6 hx hZ hown (host := "") (Or.inl wo134) Via.refl e6 pf_F_ob_records (g := (mkF m 24 #[rv ob, rv st_, .val .null, rv od, iv ((((1 : Int32) + n_) + 2) + 1), .unset, .unset] [(.ref ob), (.int (u_ + ((((1 : Int32) + n_) + 2) + 1)))])) rfl rfl (hb hby d36_24)
  obtain ⟨kk8, cl8, Ar8, qq8, Sz8, Nn8, Hs8, Gf8⟩ := id pf_A_re
  have hc9 : ¬ ((64 : Int32) < (u_ + ((((1 : Int32) + n_) + 2) + 1))) := own_fit hu hn
  obtain ⟨T10, X10, e10, st10⟩ := getF X7 hx hZ hown (host := "") (Or.inl wo136) Via.refl e7 pf_F_ob_used (g := (mkF m 60 #[rv ob, rv st_, .val .null, rv od, iv ((((1 : Int32) + n_) + 2) + 1), .unset, .unset] [(.ref ob)])) rfl rfl (hb hby d36_60)
  obtain ⟨T11, X11, e11, st11⟩ := getF X10 hx hZ hown (host := "") (Or.inl wo134) Via.refl e10 pf_F_ob_records (g := (mkF m 66 #[rv ob, rv st_, .val .null, rv od, iv ((((1 : Int32) + n_) + 2) + 1), iv u_, .unset] [(.ref ob)])) rfl rfl (hb hby d36_66)
  obtain ⟨kk12, cl12, Ar12, qq12, Sz12, Nn12, Hs12, Gf12⟩ := id pf_A_od
  obtain ⟨kk13, cl13, Ar13, qq13, Sz13, Nn13, Hs13, Gf13⟩ := id pf_A_re
  have hin14 : ¬ (u_ < 0 ∨ cl13.slots.size ≤ (u_).toNatClampNeg) := inb_of Sz13 (own_ix hu hn).1
  obtain ⟨T15, h15, X15, e15, W15, st15⟩ := stI X11 hx hZ e11 Ar13 (j := u_) hin14 (g := (mkF m 73 #[rv ob, rv st_, .val .null, rv od, iv ((((1 : Int32) + n_) + 2) + 1), iv u_, .unset] [(.int n_), (.int u_), (.ref re)])) rfl rfl (hb hby d36_73)
  have K16 : Keep h0 h15 [ob, re] := (Keep.refl h0 [ob, re]).wr W15 (Or.inl (own_m 1 rfl))
  have f17 : Av Z h15 re .int 64 (own_cv (own_s RL u_ n_)) (.int 0) := by rw [← own_cvs]; exact ⟨_, Arv.set Ar13 qq13 Sz13 Nn13 Hs13 Gf13 rfl W15 _ rfl (own_ltp Sz13 hin14 hRL)⟩
  have N18 := Fr.snoc X15 N5 pf_G_re
  have f19 := (pf_F_ob_records.other W15 (Or.inl pf_NE_ob_re))
  obtain ⟨T20, X20, e20, st20⟩ := getF X15 hx hZ hown (host := "") (Or.inl wo134) Via.refl e15 f19 (g := (mkF m 77 #[rv ob, rv st_, .val .null, rv od, iv ((((1 : Int32) + n_) + 2) + 1), iv u_, .unset] [(.ref ob), (.int 0), (.ref od)])) rfl rfl (hb hby d36_77)
  have f21 := (pf_A_od.other W15 pf_NE_od_re)
  obtain ⟨kk22, cl22, Ar22, qq22, Sz22, Nn22, Hs22, Gf22⟩ := id f21
  obtain ⟨ks23, As23⟩ := id f21
  obtain ⟨kd23, Bd23⟩ := id f17
  have cb23 := own_cpb (OL := OL) hu hn hRL
  obtain ⟨T23, h23, L23, X23, e23, N23, K23c, V23, st23⟩ := cpA X20 hx hZ hown wo185 wo188 wo186 wo187 e20 As23 Bd23 (Or.inl ⟨rfl, rfl⟩) (sp := 0) (dp := (u_ + 1)) (nn := n_) (us := (own_cv OL)) (by decide) cb23.1 cb23.2.1 (Nat.le_of_eq (Nat.zero_add _)) cb23.2.2.1 (own_us _ hOL) cb23.2.2.2 N18 pf_G_re (g := (mkF m 86 #[rv ob, rv st_, .val .null, rv od, iv ((((1 : Int32) + n_) + 2) + 1), iv u_, .unset] [(.int n_), (.int (u_ + 1)), (.ref re), (.int 0), (.ref od)])) rfl (by rw [hml]; rfl) rfl (hb hby d36_86) (by decide) (W := 0) (by show 2 * 0 + _ ≤ _; exact Nat.le_of_eq rfl) (by decide +kernel)
  have K24 : Keep h0 h23 [ob, re] := (K16).trans K23c (allS (P := fun x => x ∈ [ob, re] ∨ h0.size ≤ x) (Or.inl (own_m 1 rfl)) all0)
  have f25 : Av Z h23 re .int 64 (own_cv (own_cp (own_s RL u_ n_) (u_ + 1) OL)) (.int 0) := ⟨_, by rw [← own_cpv _ _ _ hOL]; exact V23⟩
  have f26 := (f21.keep K23c (ninS pf_NE_od_re nin0))
  obtain ⟨kk27, cl27, Ar27, qq27, Sz27, Nn27, Hs27, Gf27⟩ := id f26
  have f28 := ((pf_O.wr W15 pf_G_re).keep K23c (allS pf_G_re all0))
  have f29 := ((pf_E_st_.wr W15).keep K23c)
  have f30 := ((pf_F_st__value.other W15 (Or.inl pf_NE_st__re)).keep K23c (ninS pf_NE_st__re nin0))
  have f31 := ((pf_F_st__coder.other W15 (Or.inl pf_NE_st__re)).keep K23c (ninS pf_NE_st__re nin0))
  have f32 := ((pf_A_sv_.other W15 pf_NE_sv__re).keep K23c (ninS pf_NE_sv__re nin0))
  have f33 := (f19.keep K23c (ninS pf_NE_ob_re nin0))
  have f35 := (Nat.le_trans (Nat.le_trans Z0 (Keep.of_wr W15).1) K23c.1)
  have f36 := ((pf_E_ob.wr W15).keep K23c)
  obtain ⟨cq34, q34, q34'⟩ := f36.cell
  obtain ⟨_, _, ⟨T34, L34, k34, n34⟩, -, X34, ⟨Lc34, hQ34, l34, y34, z34⟩, st34⟩ := X23.privateBack hx (y := MN38) hown (mvT hZ wo189) (mvT hZ wo190) (own_sel (Cond.privateMethod_at (mvP hZ wo191 (args := #[]))) (mvT hZ wo190) (mvT hZ wo122 (args := #[])) (by decide)) (Cond.privateMethod_at (mvP hZ wo191 (args := #[]))) (mvT hZ wo192) (by decide) (backOf (W := 0) (wt_1 l Z a0 hw [] ((u_ + 1) + n_) ob re (own_cp (own_s RL u_ n_) (u_ + 1) OL) st_ sv_ c0 cs fm h23 n0 f35 f28 pS_COMPAC hcs pS_SIOOBE rfm f29 f30 f31 f32 hrA f33 f25 ((own_wrl (t := 0) (w := 0) hRL hu hn hOL).2 : (own_cp (own_s RL u_ n_) (u_ + 1) OL).length = 64) pf_G_re pf_NE_ob_re pf_NE_st__re pf_NE_sv__re ((own_ix hu hn).2.1 : 0 ≤ ((u_ + 1) + n_).toInt ∧ ((u_ + 1) + n_).toInt < 62)) hZ wo192 wo123 (by decide) (by decide)) (g := (mkF m 98 #[rv ob, rv st_, .val .null, rv od, iv ((((1 : Int32) + n_) + 2) + 1), iv u_, .unset] [(.ref st_), (.int ((u_ + 1) + n_)), (.ref ob)])) rfl (by rw [hml]; rfl) (Steps.refl _) (a := ob) (by rw [e23]; exact q34) q34' (argsL := [(.int ((u_ + 1) + n_)), (.ref st_)]) (rest := []) (lenOf pd_18 rfl) rfl (by show 2 * 0 + _ ≤ _; exact Nat.le_of_eq rfl) (hb hby d36_98) (fun _ _ => ⟨rfl, e23, (by decide : 0 + 0 ≤ _), (by decide : 0 + 0 ≤ _)⟩)
  dsimp only [Pt.U, Pt.locs, Pt.cells, Pt.slots] at X34 l34 y34 z34 st34 hQ34
  rw [l34, y34, z34] at X34
  obtain ⟨rfl, N34q, K34q, hq34_0⟩ := hQ34
  have N37 := Fr.app N23 N34q
  have K38 : Keep h0 T34.heap [ob, re] := (K24).trans K34q (allS (P := fun x => x ∈ [ob, re] ∨ h0.size ≤ x) (Or.inl (own_m 1 rfl)) all0)
  have f39 := (f33.keep K34q (ninS pf_NE_ob_re nin0))
  have f41 := (Nat.le_trans f35 K34q.1)
  have f42 := (f36.keep K34q)
  obtain ⟨cq40, q40, q40'⟩ := f42.cell
  obtain ⟨_, _, ⟨T40, L40, k40, n40⟩, -, X40, ⟨Lc40, hQ40, l40, y40, z40⟩, st40⟩ := X34.privateBack hx (y := MN38) hown (mvT hZ wo189) (mvT hZ wo190) (own_sel (Cond.privateMethod_at (mvP hZ wo191 (args := #[]))) (mvT hZ wo190) (mvT hZ wo122 (args := #[])) (by decide)) (Cond.privateMethod_at (mvP hZ wo191 (args := #[]))) (mvT hZ wo192) (by decide) (backOf (W := 1) (wt_N l Z a0 hw [] ((((u_ + 1) + n_) + 1) + 1) ob re (own_s (own_s (own_cp (own_s RL u_ n_) (u_ + 1) OL) ((u_ + 1) + n_) (1 : Int32)) (((u_ + 1) + n_) + 1) c0) (T34.heap) n0 f41 f39 hq34_0 (((own_sl _ _ _).trans ((own_sl _ _ _).trans (own_wrl (t := 0) (w := 0) hRL hu hn hOL).2)) : (own_s (own_s (own_cp (own_s RL u_ n_) (u_ + 1) OL) ((u_ + 1) + n_) (1 : Int32)) (((u_ + 1) + n_) + 1) c0).length = 64) pf_G_re ((own_ix hu hn).2.2.1 : 0 ≤ ((((u_ + 1) + n_) + 1) + 1).toInt ∧ ((((u_ + 1) + n_) + 1) + 1).toInt < 62)) hZ wo192 wo123 (by decide) (by decide)) (g := (mkF m 108 #[rv ob, rv st_, .val .null, rv od, iv ((((1 : Int32) + n_) + 2) + 1), iv u_, iv ((((u_ + 1) + n_) + 1) + 1)] [.null, (.int ((((u_ + 1) + n_) + 1) + 1)), (.ref ob), (.ref ob)])) rfl (by rw [hml]; rfl) (Steps.refl _) (a := ob) (q40) q40' (argsL := [(.int ((((u_ + 1) + n_) + 1) + 1)), .null]) (rest := [(.ref ob)]) (lenOf pd_18 rfl) rfl (by show 2 * 0 + _ ≤ _; exact Nat.le_of_eq rfl) (hb hby d36_108) (fun _ _ => ⟨rfl, rfl, (by decide : 0 + 0 ≤ _), (by decide : 0 + 0 ≤ _)⟩)
  dsimp only [Pt.U, Pt.locs, Pt.cells, Pt.slots] at X40 l40 y40 z40 st40 hQ40
  rw [l40, y40, z40] at X40
  obtain ⟨rfl, N40q, K40q, hq40_0⟩ := hQ40
  have N43 := Fr.app N37 N40q
  have K44 : Keep h0 T40.heap [ob, re] := (K38).trans K40q (allS (P := fun x => x ∈ [ob, re] ∨ h0.size ≤ x) (Or.inl (own_m 1 rfl)) all0)
  have f45 := ((((pf_F_ob_used.other W15 (Or.inl pf_NE_ob_re)).keep K23c (ninS pf_NE_ob_re nin0)).keep K34q (ninS pf_NE_ob_re nin0)).keep K40q (ninS pf_NE_ob_re nin0))
  have f46 := (f42.keep K40q)
  obtain ⟨T47, h47, X47, e47, W47, st47⟩ := putF X40 hx hZ hown (host := "") (Or.inl wo136) Via.refl rfl f45 f46 (Or.inl wo137) wo122 (ty := .int) (by decide) rfl rfl (g := (mkF m 111 #[rv ob, rv st_, .val .null, rv od, iv ((((1 : Int32) + n_) + 2) + 1), iv u_, iv ((((u_ + 1) + n_) + 1) + 1)] [(.int (((((u_ + 1) + n_) + 1) + 1) + 1)), (.ref ob)])) rfl rfl (hb hby d36_111)
  have K48 : Keep h0 h47 [ob, re] := (K44).wr W47 (Or.inl (own_m 0 rfl))
  have f49 : Fld Z h47 ob "com/example/arbiter/arbiter/OrdinalTable" "used" "I" (.int (((((u_ + 1) + n_) + 1) + 1) + 1)) := f45.same W47
  have N50 := Fr.snoc X47 N43 pf_G_ob
  have f51 := ((f39.keep K40q (ninS pf_NE_ob_re nin0)).other W47 (Or.inr (slot_ne (Or.inl wo135) (Or.inl wo137) (by decide) (t := (.array .int)) (t' := .int) (by decide) (by decide))))
  have f52 := (((((pf_F_ob_slots.other W15 (Or.inl pf_NE_ob_re)).keep K23c (ninS pf_NE_ob_re nin0)).keep K34q (ninS pf_NE_ob_re nin0)).keep K40q (ninS pf_NE_ob_re nin0)).other W47 (Or.inr (slot_ne (Or.inl wo129) (Or.inl wo137) (by decide) (t := (.array .int)) (t' := .int) (by decide) (by decide))))
  have f53 := (((((pf_F_ob_values.other W15 (Or.inl pf_NE_ob_re)).keep K23c (ninS pf_NE_ob_re nin0)).keep K34q (ninS pf_NE_ob_re nin0)).keep K40q (ninS pf_NE_ob_re nin0)).other W47 (Or.inr (slot_ne (Or.inl wo133) (Or.inl wo137) (by decide) (t := (.array (.object "java/lang/Object"))) (t' := .int) (by decide) (by decide))))
  have f54 := (((((pf_F_ob_seed.other W15 (Or.inl pf_NE_ob_re)).keep K23c (ninS pf_NE_ob_re nin0)).keep K34q (ninS pf_NE_ob_re nin0)).keep K40q (ninS pf_NE_ob_re nin0)).other W47 (Or.inr (slot_ne (Or.inr wo139) (Or.inl wo137) (by decide) (t := .int) (t' := .int) (by decide) (by decide))))
  have f55 := (((((pf_F_ob_unused.other W15 (Or.inl pf_NE_ob_re)).keep K23c (ninS pf_NE_ob_re nin0)).keep K34q (ninS pf_NE_ob_re nin0)).keep K40q (ninS pf_NE_ob_re nin0)).other W47 (Or.inr (slot_ne (Or.inl wo198) (Or.inl wo137) (by decide) (t := .int) (t' := .int) (by decide) (by decide))))
  have f56 := (((((pf_F_ob_size.other W15 (Or.inl pf_NE_ob_re)).keep K23c (ninS pf_NE_ob_re nin0)).keep K34q (ninS pf_NE_ob_re nin0)).keep K40q (ninS pf_NE_ob_re nin0)).other W47 (Or.inr (slot_ne (Or.inl wo173) (Or.inl wo137) (by decide) (t := .int) (t' := .int) (by decide) (by decide))))
  have f57 := (hq40_0.other W47 (Ne.symm pf_NE_ob_re))
  obtain ⟨fs, hr, hrun, hended, hW, hsame⟩ := X47.leave (v := some (.int u_)) (fun h => by rw [Bd.returns] at h; cases h)
  refine ⟨_, _, pre0 _ ?_, hrun, hended, _, _, rfl, ?_, ⟨_, rfl⟩, hW, hsame.mono (by decide) (by decide)⟩
  · show Steps _ _ _ (State.setTop _ (mkF m 0 #[rv ob, rv st_, .val .null, rv od, .unset, .unset, .unset] [])) _
    refine XS.iconst X0.here hx rfl (hb hby d36_0) ?_
    show Steps _ _ _ (State.setTop _ (mkF m 1 #[rv ob, rv st_, .val .null, rv od, .unset, .unset, .unset] [(.int 1)])) _
    refine XS.aloadN X0.here hx rfl (hb hby d36_1) rfl rfl ?_
    refine X0.arraylength hx (by rw [e0]; exact Ar1.1) (State.isArrayOf_alike hZ.alike Ar1.2.1) (g := (mkF m 2 #[rv ob, rv st_, .val .null, rv od, .unset, .unset, .unset] [(.ref od), (.int 1)])) rfl rfl (hb hby d36_2) _ ?_
    rw [len_of Sz1 Nn1]
    show Steps _ _ _ (State.setTop _ (mkF m 3 #[rv ob, rv st_, .val .null, rv od, .unset, .unset, .unset] [(.int n_), (.int 1)])) _
    refine XS.iadd X0.here hx rfl (hb hby d36_3) rfl ?_
    refine XS.aloadN X0.here hx rfl (hb hby d36_4) rfl rfl ?_
    refine st2 _ ?_
    refine XS.iadd X2.here hx rfl (hb hby d36_8) rfl ?_
    refine XS.aloadN X2.here hx rfl (hb hby d36_9) rfl rfl ?_
    refine st4 _ ?_
    refine XS.iadd X4.here hx rfl (hb hby d36_13) rfl ?_
    show Steps _ _ _ (State.setTop _ (mkF m 14 #[rv ob, rv st_, .val .null, rv od, .unset, .unset, .unset] [(.int ((((1 : Int32) + n_) + 2) + 1))])) _
    refine XS.istore X4.here hx rfl (hb hby d36_14) rfl (l' := #[rv ob, rv st_, .val .null, rv od, iv ((((1 : Int32) + n_) + 2) + 1), .unset, .unset]) rfl ?_
    refine XS.aloadN X4.here hx rfl (hb hby d36_16) rfl rfl ?_
    refine st6 _ ?_
    refine XS.iload X6.here hx rfl (hb hby d36_20) rfl ?_
    refine XS.iadd X6.here hx rfl (hb hby d36_22) rfl ?_
    refine XS.aloadN X6.here hx rfl (hb hby d36_23) rfl rfl ?_
    refine st7 _ ?_
    refine X7.arraylength hx (by rw [e7]; exact Ar8.1) (State.isArrayOf_alike hZ.alike Ar8.2.1) (g := (mkF m 27 #[rv ob, rv st_, .val .null, rv od, iv ((((1 : Int32) + n_) + 2) + 1), .unset, .unset] [(.ref re), (.int (u_ + ((((1 : Int32) + n_) + 2) + 1)))])) rfl rfl (hb hby d36_27) _ ?_
    rw [len_of Sz8 Nn8]
    show Steps _ _ _ (State.setTop _ (mkF m 28 #[rv ob, rv st_, .val .null, rv od, iv ((((1 : Int32) + n_) + 2) + 1), .unset, .unset] [(.int 64), (.int (u_ + ((((1 : Int32) + n_) + 2) + 1)))])) _
    refine XS.icmpYes X7.here hx rfl (pc0 := 28) (pc' := 59) rfl (hb hby d36_28) rfl (flt hc9).2.2.2 (by decide) (by decide) ?_
    show Steps _ _ _ (State.setTop _ (mkF m 59 #[rv ob, rv st_, .val .null, rv od, iv ((((1 : Int32) + n_) + 2) + 1), .unset, .unset] [])) _
    refine XS.aloadN X7.here hx rfl (hb hby d36_59) rfl rfl ?_
    refine st10 _ ?_
    refine XS.istore X10.here hx rfl (hb hby d36_63) rfl (l' := #[rv ob, rv st_, .val .null, rv od, iv ((((1 : Int32) + n_) + 2) + 1), iv u_, .unset]) rfl ?_
    refine XS.aloadN X10.here hx rfl (hb hby d36_65) rfl rfl ?_
    refine st11 _ ?_
    refine XS.iload X11.here hx rfl (hb hby d36_69) rfl ?_
    refine XS.aloadN X11.here hx rfl (hb hby d36_71) rfl rfl ?_
    refine X11.arraylength hx (by rw [e11]; exact Ar12.1) (State.isArrayOf_alike hZ.alike Ar12.2.1) (g := (mkF m 72 #[rv ob, rv st_, .val .null, rv od, iv ((((1 : Int32) + n_) + 2) + 1), iv u_, .unset] [(.ref od), (.int u_), (.ref re)])) rfl rfl (hb hby d36_72) _ ?_
    rw [len_of Sz12 Nn12]
    show Steps _ _ _ (State.setTop _ (mkF m 73 #[rv ob, rv st_, .val .null, rv od, iv ((((1 : Int32) + n_) + 2) + 1), iv u_, .unset] [(.int n_), (.int u_), (.ref re)])) _
    refine st15 _ ?_
    show Steps _ _ _ (State.setTop _ (mkF m 74 #[rv ob, rv st_, .val .null, rv od, iv ((((1 : Int32) + n_) + 2) + 1), iv u_, .unset] [])) _
    refine XS.aloadN X15.here hx rfl (hb hby d36_74) rfl rfl ?_
    refine XS.iconst X15.here hx rfl (hb hby d36_75) ?_
    refine XS.aloadN X15.here hx rfl (hb hby d36_76) rfl rfl ?_
    refine st20 _ ?_
    refine XS.iload X20.here hx rfl (hb hby d36_80) rfl ?_
    refine XS.iconst X20.here hx rfl (hb hby d36_82) ?_
    refine XS.iadd X20.here hx rfl (hb hby d36_83) rfl ?_
    refine XS.aloadN X20.here hx rfl (hb hby d36_84) rfl rfl ?_
    refine X20.arraylength hx (by rw [e20]; exact Ar22.1) (State.isArrayOf_alike hZ.alike Ar22.2.1) (g := (mkF m 85 #[rv ob, rv st_, .val .null, rv od, iv ((((1 : Int32) + n_) + 2) + 1), iv u_, .unset] [(.ref od), (.int (u_ + 1)), (.ref re), (.int 0), (.ref od)])) rfl rfl (hb hby d36_85) _ ?_
    rw [len_of Sz22 Nn22]
    show Steps _ _ _ (State.setTop _ (mkF m 86 #[rv ob, rv st_, .val .null, rv od, iv ((((1 : Int32) + n_) + 2) + 1), iv u_, .unset] [(.int n_), (.int (u_ + 1)), (.ref re), (.int 0), (.ref od)])) _
    refine st23 _ ?_
    refine XS.aloadN X23.here hx rfl (hb hby d36_89) rfl rfl ?_
    refine XS.iload X23.here hx rfl (hb hby d36_90) rfl ?_
    refine XS.iconst X23.here hx rfl (hb hby d36_92) ?_
    refine XS.iadd X23.here hx rfl (hb hby d36_93) rfl ?_
    refine XS.aloadN X23.here hx rfl (hb hby d36_94) rfl rfl ?_
    refine X23.arraylength hx (by rw [e23]; exact Ar27.1) (State.isArrayOf_alike hZ.alike Ar27.2.1) (g := (mkF m 95 #[rv ob, rv st_, .val .null, rv od, iv ((((1 : Int32) + n_) + 2) + 1), iv u_, .unset] [(.ref od), (.int (u_ + 1)), (.ref ob)])) rfl rfl (hb hby d36_95) _ ?_
    rw [len_of Sz27 Nn27]
    show Steps _ _ _ (State.setTop _ (mkF m 96 #[rv ob, rv st_, .val .null, rv od, iv ((((1 : Int32) + n_) + 2) + 1), iv u_, .unset] [(.int n_), (.int (u_ + 1)), (.ref ob)])) _
    refine XS.iadd X23.here hx rfl (hb hby d36_96) rfl ?_
    refine XS.aloadN X23.here hx rfl (hb hby d36_97) rfl rfl ?_
    show Steps _ _ _ (State.setTop _ (mkF m 98 #[rv ob, rv st_, .val .null, rv od, iv ((((1 : Int32) + n_) + 2) + 1), iv u_, .unset] [(.ref st_), (.int ((u_ + 1) + n_)), (.ref ob)])) _
    refine st34.trans ?_
    refine XS.istore X34.here hx rfl (hb hby d36_101) rfl (l' := #[rv ob, rv st_, .val .null, rv od, iv ((((1 : Int32) + n_) + 2) + 1), iv u_, iv ((((u_ + 1) + n_) + 1) + 1)]) rfl ?_
    refine XS.aloadN X34.here hx rfl (hb hby d36_103) rfl rfl ?_
    refine XS.aloadN X34.here hx rfl (hb hby d36_104) rfl rfl ?_
    refine XS.iload X34.here hx rfl (hb hby d36_105) rfl ?_
    refine XS.aloadN X34.here hx rfl (hb hby d36_107) rfl rfl ?_
    refine st40.trans ?_
    refine st47 _ ?_
    refine XS.iload X47.here hx rfl (hb hby d36_114) rfl ?_
    show Steps _ _ _ (State.setTop _ (mkF m 116 #[rv ob, rv st_, .val .null, rv od, iv ((((1 : Int32) + n_) + 2) + 1), iv u_, iv ((((u_ + 1) + n_) + 1) + 1)] [(.int u_)])) _
    exact retI X47 hx Bd.returns (hb hby d36_116) hr
  · show Q_wr_1 Z _ _ _ _ _ _ _ _ _ _ _ _ _ _ _ _ h0 n0 _ T47.heap _
    rw [e47]
    exact ⟨rfl, N50, (K48), f51, f52, f53, f54, f55, f56, f49, f57⟩
theorem ef_wr_2 (m : MethodId) (x0 x1 x3 : Addr) : entryFrame m #[(.ref x0), (.ref x1), .null, (.ref x3)] 7 = mkF m 0 #[rv x0, rv x1, .val .null, rv x3, .unset, .unset, .unset] [] := by first | (simp [entryFrame, mkF, argsToLocals, Value.category]; done) | rfl
def Q_wr_2 (Z : State) (ob re : Addr) (RL : List Int32) (u_ : Int32) (sl va : Addr) (sd sz_ : Int32) (od : Addr) (OL : List Int32) (n_ : Int32) (st_ sv_ : Addr) (c0 c1 cs : Int32) (fm : Value) (h0 : Heap) (n0 : Nat) (v : Option Value) (h : Heap) (L : List Loc) : Prop := v = some (.int u_) ∧ Fr n0 L ∧ Keep h0 h [ob, re] ∧ (Fld Z h ob "com/example/arbiter/arbiter/OrdinalTable" "records" "[I" (.ref re)) ∧ (Fld Z h ob "com/example/arbiter/arbiter/OrdinalTable" "slots" "[I" (.ref sl)) ∧ (Fld Z h ob "com/example/arbiter/arbiter/OrdinalTable" "values" "[Ljava/lang/Object;" (.ref va)) ∧ (Fld Z h ob "com/example/arbiter/arbiter/OrdinalTable" "seed" "I" (.int sd)) ∧ (Fld Z h ob "com/example/arbiter/arbiter/OrdinalTable" "unused" "I" (.int 0)) ∧ (Fld Z h ob "com/example/arbiter/arbiter/OrdinalTable" "size" "I" (.int sz_)) ∧ (Fld Z h ob "com/example/arbiter/arbiter/OrdinalTable" "used" "I" (.int (((((u_ + 1) + n_) + 1) + 1) + 1))) ∧ (Av Z h re .int 64 (own_cv (own_wr RL u_ n_ OL (2 : Int32) (c0 ||| (c1 <<< ((16 : Int32) &&& 31))))) (.int 0))
set_option maxRecDepth 65536 in
set_option maxHeartbeats 40000000 in
theorem wr_2 (l : Launch) (Z : State) (a0 : Array Value) (hw : ∀ d ∈ tables_1, d.before a0 Z = true) (ws : List Jvm.Cond) (ob re : Addr) (RL : List Int32) (u_ : Int32) (sl va : Addr) (sd sz_ : Int32) (od : Addr) (OL : List Int32) (n_ : Int32) (st_ sv_ : Addr) (c0 c1 cs : Int32) (fm : Value) (h0 : Heap) (n0 : Nat) (Z0 : n0 ≤ h0.size) (pf_O : Old Z n0 h0) (pS_COMPAC : Sta Z Z.heap "java/lang/String" "COMPACT_STRINGS" "Z" (.int cs)) (hcs : ¬ (cs = 0)) (pS_SIOOBE : Sta Z Z.heap "jdk/internal/util/Preconditions" "SIOOBE_FORMATTER" "Ljava/util/function/BiFunction;" fm) (rfm : fm.isRef = true) (pf_E_st_ : Exa Z h0 st_ "java/lang/String") (pf_F_st__value : Fld Z h0 st_ "java/lang/String" "value" "[B" (.ref sv_)) (pf_F_st__coder : Fld Z h0 st_ "java/lang/String" "coder" "B" (.int 0)) (pf_A_sv_ : Av Z h0 sv_ .byte (2 : Int32) (own_vs [c0, c1]) (.int 0)) (hrA : ∀ c ∈ ([c0, c1] : List Int32), ¬ c < 0 ∧ ¬ (255 : Int32) < c) (pf_E_ob : Exa Z h0 ob "com/example/arbiter/arbiter/OrdinalTable") (pf_F_ob_records : Fld Z h0 ob "com/example/arbiter/arbiter/OrdinalTable" "records" "[I" (.ref re)) (pf_A_re : Av Z h0 re .int 64 (own_cv RL) (.int 0)) (pf_F_ob_used : Fld Z h0 ob "com/example/arbiter/arbiter/OrdinalTable" "used" "I" (.int u_)) (pf_F_ob_slots : Fld Z h0 ob "com/example/arbiter/arbiter/OrdinalTable" "slots" "[I" (.ref sl)) (pf_F_ob_values : Fld Z h0 ob "com/example/arbiter/arbiter/OrdinalTable" "values" "[Ljava/lang/Object;" (.ref va)) (pf_F_ob_seed : Fld Z h0 ob "com/example/arbiter/arbiter/OrdinalTable" "seed" "I" (.int sd)) (pf_F_ob_unused : Fld Z h0 ob "com/example/arbiter/arbiter/OrdinalTable" "unused" "I" (.int 0)) (pf_F_ob_size : Fld Z h0 ob "com/example/arbiter/arbiter/OrdinalTable" "size" "I" (.int sz_)) (hRL : RL.length = 64) (pf_A_od : Av Z h0 od .int n_ (own_cv OL) (.int 0)) (hu : 0 < u_.toInt ∧ u_.toInt < 20) (hn : 0 < n_.toInt ∧ n_.toInt < 5) (hOL : OL.length = n_.toNatClampNeg) (pf_G_ob : n0 ≤ ob) (pf_G_re : n0 ≤ re) (pf_NE_ob_re : ob ≠ re) (pf_NE_st__ob : st_ ≠ ob) (pf_NE_st__re : st_ ≠ re) (pf_NE_sv__ob : sv_ ≠ ob) (pf_NE_sv__re : sv_ ≠ re) (pf_NE_od_ob : od ≠ ob) (pf_NE_od_re : od ≠ re) :
    MetFree l MN36 (head1 (Jvm.Cond.code MN36 prog_25_method_25_code 7 (some .int) :: ws) (Room.mk 6 0 0 86)) (fun a U => a = #[(.ref ob), (.ref st_), .null, (.ref od)] ∧ Z.Warmed39 U.vm ∧ U.heap = h0) (fun _ _ _ _ _ => True) (fun _ U o U' => ∃ v L, o = .returned v ∧ Q_wr_2 Z ob re RL u_ sl va sd sz_ od OL n_ st_ sv_ c0 c1 cs fm h0 n0 v U'.heap L ∧ FrameEnd U o U' L (Room.mk 6 0 0 86).cells (Room.mk 6 0 0 86).slots) := by
  refine MetFree.of_bodySF (plainFor_of_name pn_com_example_arbiter_arbiter_OrdinalTable) hisR ?_
  intro p e s m args below meth c s₁ Bd hml0 hP hK
  obtain ⟨rfl, hZ, hh⟩ := hP
  have hx := Bd.exec
  have hby := Bd.bytes
  have hml : c.maxLocals = 7 := hml0
  have hown : s.vm.findClass "com/example/arbiter/arbiter/OrdinalTable" = some m.cls := findClass_of_methodNamed Bd.named
  have hnm := (name_of_methodNamed Bd.named Bd.method).1
  have X0 : Stand p l e (Room.mk 6 0 0 86) s m #[(.ref ob), (.ref st_), .null, (.ref od)] below meth c s₁ [] 0 0 := Stand.of_body Bd
  have e0 : s₁.heap = h0 := by rw [← hh, Bd.state]; rfl
  have N0 := Fr.nil n0
  have pre0 : ∀ t, Steps p.tables e below (s₁.setTop (mkF m 0 #[rv ob, rv st_, .val .null, rv od, .unset, .unset, .unset] [])) t → Steps p.tables e below (s₁.setTop (entryFrame m #[(.ref ob), (.ref st_), .null, (.ref od)] 7)) t := fun t k => castTop (ef_wr_2 m ob st_ od) k
  have wo122 := hw _ (own_m 122 rfl)
  have wo123 := hw _ (own_m 123 rfl)
  have wo129 := hw _ (own_m 129 rfl)
  have wo133 := hw _ (own_m 133 rfl)
  have wo134 := hw _ (own_m 134 rfl)
  have wo135 := hw _ (own_m 135 rfl)
  have wo136 := hw _ (own_m 136 rfl)
  have wo137 := hw _ (own_m 137 rfl)
  have wo139 := hw _ (own_m 139 rfl)
  have wo173 := hw _ (own_m 173 rfl)
  have wo182 := hw _ (own_m 182 rfl)
  have wo183 := hw _ (own_m 183 rfl)
  have wo184 := hw _ (own_m 184 rfl)
  have wo185 := hw _ (own_m 185 rfl)
  have wo186 := hw _ (own_m 186 rfl)
  have wo187 := hw _ (own_m 187 rfl)
  have wo188 := hw _ (own_m 188 rfl)
  have wo189 := hw _ (own_m 189 rfl)
  have wo190 := hw _ (own_m 190 rfl)
  have wo191 := hw _ (own_m 191 rfl)
  have wo192 := hw _ (own_m 192 rfl)
  have wo198 := hw _ (own_m 198 rfl)
  obtain ⟨kk1, cl1, Ar1, qq1, Sz1, Nn1, Hs1, Gf1⟩ := id pf_A_od
  obtain ⟨_, _, ⟨T2, L2, k2, n2⟩, -, X2, ⟨Lc2, hQ2, l2, y2, z2⟩, st2⟩ := Jvm.LawKit.callS X0 hx (y := MN37) hown (mvT hZ wo182) (mvT hZ wo183) (mvT hZ wo123) (mvT hZ wo184) (by decide) (backOf (W := 1) (tl_2 l Z a0 hw [] st_ sv_ c0 c1 cs fm h0 n0 Z0 pf_O pS_COMPAC hcs pS_SIOOBE rfm pf_E_st_ pf_F_st__value pf_F_st__coder pf_A_sv_ hrA) hZ wo184 wo123 (by decide) (by decide)) (g := (mkF m 5 #[rv ob, rv st_, .val .null, rv od, .unset, .unset, .unset] [(.ref st_), (.int ((1 : Int32) + n_))])) rfl (by rw [hml]; rfl) (argsL := [(.ref st_)]) (rest := [(.int ((1 : Int32) + n_))]) (lenOf pd_25 rfl) rfl (by show 2 * 0 + _ ≤ _; exact Nat.le_of_eq rfl) (hb hby d36_5) (fun _ _ => ⟨rfl, e0, (by decide : 0 + 0 ≤ _), (by decide : 0 + 0 ≤ _)⟩)
  dsimp only [Pt.U, Pt.locs, Pt.cells, Pt.slots] at X2 l2 y2 z2 st2 hQ2
  rw [l2, y2, z2] at X2
  obtain ⟨rfl, N2q, K2q⟩ := hQ2
  have N3 := Fr.app N0 N2q
  obtain ⟨_, _, ⟨T4, L4, k4, n4⟩, -, X4, ⟨Lc4, hQ4, l4, y4, z4⟩, st4⟩ := Jvm.LawKit.callS X2 hx (y := MN37) hown (mvT hZ wo182) (mvT hZ wo183) (mvT hZ wo123) (mvT hZ wo184) (by decide) (backOf (W := 1) (tl_N l Z a0 hw []  h0 n0 Z0 ) hZ wo184 wo123 (by decide) (by decide)) (g := (mkF m 10 #[rv ob, rv st_, .val .null, rv od, .unset, .unset, .unset] [.null, (.int (((1 : Int32) + n_) + 2))])) rfl (by rw [hml]; rfl) (argsL := [.null]) (rest := [(.int (((1 : Int32) + n_) + 2))]) (lenOf pd_25 rfl) rfl (by show 2 * 0 + _ ≤ _; exact Nat.le_of_eq rfl) (hb hby d36_10) (fun _ _ => ⟨rfl, K2q, (by decide : 0 + 0 ≤ _), (by decide : 0 + 0 ≤ _)⟩)
  dsimp only [Pt.U, Pt.locs, Pt.cells, Pt.slots] at X4 l4 y4 z4 st4 hQ4
  rw [l4, y4, z4] at X4
  obtain ⟨rfl, N4q, K4q⟩ := hQ4
  have N5 := Fr.app N3 N4q
  obtain ⟨T6, X6, e6, st6⟩ := getF X4 hx hZ hown (host := "") (Or.inl wo136) Via.refl K4q pf_F_ob_used (g := (mkF m 17 #[rv ob, rv st_, .val .null, rv od, iv ((((1 : Int32) + n_) + 2) + 1), .unset, .unset] [(.ref ob)])) rfl rfl (hb hby d36_17)
  obtain ⟨T7, X7, e7, st7⟩ := getF X6 hx hZ hown (host := "") (Or.inl wo134) Via.refl e6 pf_F_ob_records (g := (mkF m 24 #[rv ob, rv st_, .val .null, rv od, iv ((((1 : Int32) + n_) + 2) + 1), .unset, .unset] [(.ref ob), (.int (u_ + ((((1 : Int32) + n_) + 2) + 1)))])) rfl rfl (hb hby d36_24)
  obtain ⟨kk8, cl8, Ar8, qq8, Sz8, Nn8, Hs8, Gf8⟩ := id pf_A_re
  have hc9 : ¬ ((64 : Int32) < (u_ + ((((1 : Int32) + n_) + 2) + 1))) := own_fit hu hn
  obtain ⟨T10, X10, e10, st10⟩ := getF X7 hx hZ hown (host := "") (Or.inl wo136) Via.refl e7 pf_F_ob_used (g := (mkF m 60 #[rv ob, rv st_, .val .null, rv od, iv ((((1 : Int32) + n_) + 2) + 1), .unset, .unset] [(.ref ob)])) rfl rfl (hb hby d36_60)
  obtain ⟨T11, X11, e11, st11⟩ := getF X10 hx hZ hown (host := "") (Or.inl wo134) Via.refl e10 pf_F_ob_records (g := (mkF m 66 #[rv ob, rv st_, .val .null, rv od, iv ((((1 : Int32) + n_) + 2) + 1), iv u_, .unset] [(.ref ob)])) rfl rfl (hb hby d36_66)
  obtain ⟨kk12, cl12, Ar12, qq12, Sz12, Nn12, Hs12, Gf12⟩ := id pf_A_od
  obtain ⟨kk13, cl13, Ar13, qq13, Sz13, Nn13, Hs13, Gf13⟩ := id pf_A_re
  have hin14 : ¬ (u_ < 0 ∨ cl13.slots.size ≤ (u_).toNatClampNeg) := inb_of Sz13 (own_ix hu hn).1
  obtain ⟨T15, h15, X15, e15, W15, st15⟩ := stI X11 hx hZ e11 Ar13 (j := u_) hin14 (g := (mkF m 73 #[rv ob, rv st_, .val .null, rv od, iv ((((1 : Int32) + n_) + 2) + 1), iv u_, .unset] [(.int n_), (.int u_), (.ref re)])) rfl rfl (hb hby d36_73)
  have K16 : Keep h0 h15 [ob, re] := (Keep.refl h0 [ob, re]).wr W15 (Or.inl (own_m 1 rfl))
  have f17 : Av Z h15 re .int 64 (own_cv (own_s RL u_ n_)) (.int 0) := by rw [← own_cvs]; exact ⟨_, Arv.set Ar13 qq13 Sz13 Nn13 Hs13 Gf13 rfl W15 _ rfl (own_ltp Sz13 hin14 hRL)⟩
  have N18 := Fr.snoc X15 N5 pf_G_re
  have f19 := (pf_F_ob_records.other W15 (Or.inl pf_NE_ob_re))
  obtain ⟨T20, X20, e20, st20⟩ := getF X15 hx hZ hown (host := "") (Or.inl wo134) Via.refl e15 f19 (g := (mkF m 77 #[rv ob, rv st_, .val .null, rv od, iv ((((1 : Int32) + n_) + 2) + 1), iv u_, .unset] [(.ref ob), (.int 0), (.ref od)])) rfl rfl (hb hby d36_77)
  have f21 := (pf_A_od.other W15 pf_NE_od_re)
  obtain ⟨kk22, cl22, Ar22, qq22, Sz22, Nn22, Hs22, Gf22⟩ := id f21
  obtain ⟨ks23, As23⟩ := id f21
  obtain ⟨kd23, Bd23⟩ := id f17
  have cb23 := own_cpb (OL := OL) hu hn hRL
  obtain ⟨T23, h23, L23, X23, e23, N23, K23c, V23, st23⟩ := cpA X20 hx hZ hown wo185 wo188 wo186 wo187 e20 As23 Bd23 (Or.inl ⟨rfl, rfl⟩) (sp := 0) (dp := (u_ + 1)) (nn := n_) (us := (own_cv OL)) (by decide) cb23.1 cb23.2.1 (Nat.le_of_eq (Nat.zero_add _)) cb23.2.2.1 (own_us _ hOL) cb23.2.2.2 N18 pf_G_re (g := (mkF m 86 #[rv ob, rv st_, .val .null, rv od, iv ((((1 : Int32) + n_) + 2) + 1), iv u_, .unset] [(.int n_), (.int (u_ + 1)), (.ref re), (.int 0), (.ref od)])) rfl (by rw [hml]; rfl) rfl (hb hby d36_86) (by decide) (W := 0) (by show 2 * 0 + _ ≤ _; exact Nat.le_of_eq rfl) (by decide +kernel)
  have K24 : Keep h0 h23 [ob, re] := (K16).trans K23c (allS (P := fun x => x ∈ [ob, re] ∨ h0.size ≤ x) (Or.inl (own_m 1 rfl)) all0)
  have f25 : Av Z h23 re .int 64 (own_cv (own_cp (own_s RL u_ n_) (u_ + 1) OL)) (.int 0) := ⟨_, by rw [← own_cpv _ _ _ hOL]; exact V23⟩
  have f26 := (f21.keep K23c (ninS pf_NE_od_re nin0))
  obtain ⟨kk27, cl27, Ar27, qq27, Sz27, Nn27, Hs27, Gf27⟩ := id f26
  have f28 := ((pf_O.wr W15 pf_G_re).keep K23c (allS pf_G_re all0))
  have f29 := ((pf_E_st_.wr W15).keep K23c)
  have f30 := ((pf_F_st__value.other W15 (Or.inl pf_NE_st__re)).keep K23c (ninS pf_NE_st__re nin0))
  have f31 := ((pf_F_st__coder.other W15 (Or.inl pf_NE_st__re)).keep K23c (ninS pf_NE_st__re nin0))
  have f32 := ((pf_A_sv_.other W15 pf_NE_sv__re).keep K23c (ninS pf_NE_sv__re nin0))
  have f33 := (f19.keep K23c (ninS pf_NE_ob_re nin0))
  have f35 := (Nat.le_trans (Nat.le_trans Z0 (Keep.of_wr W15).1) K23c.1)
  have f36 := ((pf_E_ob.wr W15).keep K23c)
  obtain ⟨cq34, q34, q34'⟩ := f36.cell
  obtain ⟨_, _, ⟨T34, L34, k34, n34⟩, -, X34, ⟨Lc34, hQ34, l34, y34, z34⟩, st34⟩ := X23.privateBack hx (y := MN38) hown (mvT hZ wo189) (mvT hZ wo190) (own_sel (Cond.privateMethod_at (mvP hZ wo191 (args := #[]))) (mvT hZ wo190) (mvT hZ wo122 (args := #[])) (by decide)) (Cond.privateMethod_at (mvP hZ wo191 (args := #[]))) (mvT hZ wo192) (by decide) (backOf (W := 0) (wt_2 l Z a0 hw [] ((u_ + 1) + n_) ob re (own_cp (own_s RL u_ n_) (u_ + 1) OL) st_ sv_ c0 c1 cs fm h23 n0 f35 f28 pS_COMPAC hcs pS_SIOOBE rfm f29 f30 f31 f32 hrA f33 f25 ((own_wrl (t := 0) (w := 0) hRL hu hn hOL).2 : (own_cp (own_s RL u_ n_) (u_ + 1) OL).length = 64) pf_G_re pf_NE_ob_re pf_NE_st__re pf_NE_sv__re ((own_ix hu hn).2.1 : 0 ≤ ((u_ + 1) + n_).toInt ∧ ((u_ + 1) + n_).toInt < 62)) hZ wo192 wo123 (by decide) (by decide)) (g := (mkF m 98 #[rv ob, rv st_, .val .null, rv od, iv ((((1 : Int32) + n_) + 2) + 1), iv u_, .unset] [(.ref st_), (.int ((u_ + 1) + n_)), (.ref ob)])) rfl (by rw [hml]; rfl) (Steps.refl _) (a := ob) (by rw [e23]; exact q34) q34' (argsL := [(.int ((u_ + 1) + n_)), (.ref st_)]) (rest := []) (lenOf pd_18 rfl) rfl (by show 2 * 0 + _ ≤ _; exact Nat.le_of_eq rfl) (hb hby d36_98) (fun _ _ => ⟨rfl, e23, (by decide : 0 + 0 ≤ _), (by decide : 0 + 0 ≤ _)⟩)
  dsimp only [Pt.U, Pt.locs, Pt.cells, Pt.slots] at X34 l34 y34 z34 st34 hQ34
  rw [l34, y34, z34] at X34
  obtain ⟨rfl, N34q, K34q, hq34_0⟩ := hQ34
  have N37 := Fr.app N23 N34q
  have K38 : Keep h0 T34.heap [ob, re] := (K24).trans K34q (allS (P := fun x => x ∈ [ob, re] ∨ h0.size ≤ x) (Or.inl (own_m 1 rfl)) all0)
  have f39 := (f33.keep K34q (ninS pf_NE_ob_re nin0))
  have f41 := (Nat.le_trans f35 K34q.1)
  have f42 := (f36.keep K34q)
  obtain ⟨cq40, q40, q40'⟩ := f42.cell
  obtain ⟨_, _, ⟨T40, L40, k40, n40⟩, -, X40, ⟨Lc40, hQ40, l40, y40, z40⟩, st40⟩ := X34.privateBack hx (y := MN38) hown (mvT hZ wo189) (mvT hZ wo190) (own_sel (Cond.privateMethod_at (mvP hZ wo191 (args := #[]))) (mvT hZ wo190) (mvT hZ wo122 (args := #[])) (by decide)) (Cond.privateMethod_at (mvP hZ wo191 (args := #[]))) (mvT hZ wo192) (by decide) (backOf (W := 1) (wt_N l Z a0 hw [] ((((u_ + 1) + n_) + 1) + 1) ob re (own_s (own_s (own_cp (own_s RL u_ n_) (u_ + 1) OL) ((u_ + 1) + n_) (2 : Int32)) (((u_ + 1) + n_) + 1) (c0 ||| (c1 <<< ((16 : Int32) &&& 31)))) (T34.heap) n0 f41 f39 hq34_0 (((own_sl _ _ _).trans ((own_sl _ _ _).trans (own_wrl (t := 0) (w := 0) hRL hu hn hOL).2)) : (own_s (own_s (own_cp (own_s RL u_ n_) (u_ + 1) OL) ((u_ + 1) + n_) (2 : Int32)) (((u_ + 1) + n_) + 1) (c0 ||| (c1 <<< ((16 : Int32) &&& 31)))).length = 64) pf_G_re ((own_ix hu hn).2.2.1 : 0 ≤ ((((u_ + 1) + n_) + 1) + 1).toInt ∧ ((((u_ + 1) + n_) + 1) + 1).toInt < 62)) hZ wo192 wo123 (by decide) (by decide)) (g := (mkF m 108 #[rv ob, rv st_, .val .null, rv od, iv ((((1 : Int32) + n_) + 2) + 1), iv u_, iv ((((u_ + 1) + n_) + 1) + 1)] [.null, (.int ((((u_ + 1) + n_) + 1) + 1)), (.ref ob), (.ref ob)])) rfl (by rw [hml]; rfl) (Steps.refl _) (a := ob) (q40) q40' (argsL := [(.int ((((u_ + 1) + n_) + 1) + 1)), .null]) (rest := [(.ref ob)]) (lenOf pd_18 rfl) rfl (by show 2 * 0 + _ ≤ _; exact Nat.le_of_eq rfl) (hb hby d36_108) (fun _ _ => ⟨rfl, rfl, (by decide : 0 + 0 ≤ _), (by decide : 0 + 0 ≤ _)⟩)
  dsimp only [Pt.U, Pt.locs, Pt.cells, Pt.slots] at X40 l40 y40 z40 st40 hQ40
  rw [l40, y40, z40] at X40
  obtain ⟨rfl, N40q, K40q, hq40_0⟩ := hQ40
  have N43 := Fr.app N37 N40q
  have K44 : Keep h0 T40.heap [ob, re] := (K38).trans K40q (allS (P := fun x => x ∈ [ob, re] ∨ h0.size ≤ x) (Or.inl (own_m 1 rfl)) all0)
  have f45 := ((((pf_F_ob_used.other W15 (Or.inl pf_NE_ob_re)).keep K23c (ninS pf_NE_ob_re nin0)).keep K34q (ninS pf_NE_ob_re nin0)).keep K40q (ninS pf_NE_ob_re nin0))
  have f46 := (f42.keep K40q)
  obtain ⟨T47, h47, X47, e47, W47, st47⟩ := putF X40 hx hZ hown (host := "") (Or.inl wo136) Via.refl rfl f45 f46 (Or.inl wo137) wo122 (ty := .int) (by decide) rfl rfl (g := (mkF m 111 #[rv ob, rv st_, .val .null, rv od, iv ((((1 : Int32) + n_) + 2) + 1), iv u_, iv ((((u_ + 1) + n_) + 1) + 1)] [(.int (((((u_ + 1) + n_) + 1) + 1) + 1)), (.ref ob)])) rfl rfl (hb hby d36_111)
  have K48 : Keep h0 h47 [ob, re] := (K44).wr W47 (Or.inl (own_m 0 rfl))
  have f49 : Fld Z h47 ob "com/example/arbiter/arbiter/OrdinalTable" "used" "I" (.int (((((u_ + 1) + n_) + 1) + 1) + 1)) := f45.same W47
  have N50 := Fr.snoc X47 N43 pf_G_ob
  have f51 := ((f39.keep K40q (ninS pf_NE_ob_re nin0)).other W47 (Or.inr (slot_ne (Or.inl wo135) (Or.inl wo137) (by decide) (t := (.array .int)) (t' := .int) (by decide) (by decide))))
  have f52 := (((((pf_F_ob_slots.other W15 (Or.inl pf_NE_ob_re)).keep K23c (ninS pf_NE_ob_re nin0)).keep K34q (ninS pf_NE_ob_re nin0)).keep K40q (ninS pf_NE_ob_re nin0)).other W47 (Or.inr (slot_ne (Or.inl wo129) (Or.inl wo137) (by decide) (t := (.array .int)) (t' := .int) (by decide) (by decide))))
  have f53 := (((((pf_F_ob_values.other W15 (Or.inl pf_NE_ob_re)).keep K23c (ninS pf_NE_ob_re nin0)).keep K34q (ninS pf_NE_ob_re nin0)).keep K40q (ninS pf_NE_ob_re nin0)).other W47 (Or.inr (slot_ne (Or.inl wo133) (Or.inl wo137) (by decide) (t := (.array (.object "java/lang/Object"))) (t' := .int) (by decide) (by decide))))
  have f54 := (((((pf_F_ob_seed.other W15 (Or.inl pf_NE_ob_re)).keep K23c (ninS pf_NE_ob_re nin0)).keep K34q (ninS pf_NE_ob_re nin0)).keep K40q (ninS pf_NE_ob_re nin0)).other W47 (Or.inr (slot_ne (Or.inr wo139) (Or.inl wo137) (by decide) (t := .int) (t' := .int) (by decide) (by decide))))
  have f55 := (((((pf_F_ob_unused.other W15 (Or.inl pf_NE_ob_re)).keep K23c (ninS pf_NE_ob_re nin0)).keep K34q (ninS pf_NE_ob_re nin0)).keep K40q (ninS pf_NE_ob_re nin0)).other W47 (Or.inr (slot_ne (Or.inl wo198) (Or.inl wo137) (by decide) (t := .int) (t' := .int) (by decide) (by decide))))
  have f56 := (((((pf_F_ob_size.other W15 (Or.inl pf_NE_ob_re)).keep K23c (ninS pf_NE_ob_re nin0)).keep K34q (ninS pf_NE_ob_re nin0)).keep K40q (ninS pf_NE_ob_re nin0)).other W47 (Or.inr (slot_ne (Or.inl wo173) (Or.inl wo137) (by decide) (t := .int) (t' := .int) (by decide) (by decide))))
  have f57 := (hq40_0.other W47 (Ne.symm pf_NE_ob_re))
  obtain ⟨fs, hr, hrun, hended, hW, hsame⟩ := X47.leave (v := some (.int u_)) (fun h => by rw [Bd.returns] at h; cases h)
  refine ⟨_, _, pre0 _ ?_, hrun, hended, _, _, rfl, ?_, ⟨_, rfl⟩, hW, hsame.mono (by decide) (by decide)⟩
  · show Steps _ _ _ (State.setTop _ (mkF m 0 #[rv ob, rv st_, .val .null, rv od, .unset, .unset, .unset] [])) _
    refine XS.iconst X0.here hx rfl (hb hby d36_0) ?_
    show Steps _ _ _ (State.setTop _ (mkF m 1 #[rv ob, rv st_, .val .null, rv od, .unset, .unset, .unset] [(.int 1)])) _
    refine XS.aloadN X0.here hx rfl (hb hby d36_1) rfl rfl ?_
    refine X0.arraylength hx (by rw [e0]; exact Ar1.1) (State.isArrayOf_alike hZ.alike Ar1.2.1) (g := (mkF m 2 #[rv ob, rv st_, .val .null, rv od, .unset, .unset, .unset] [(.ref od), (.int 1)])) rfl rfl (hb hby d36_2) _ ?_
    rw [len_of Sz1 Nn1]
    show Steps _ _ _ (State.setTop _ (mkF m 3 #[rv ob, rv st_, .val .null, rv od, .unset, .unset, .unset] [(.int n_), (.int 1)])) _
    refine XS.iadd X0.here hx rfl (hb hby d36_3) rfl ?_
    refine XS.aloadN X0.here hx rfl (hb hby d36_4) rfl rfl ?_
    refine st2 _ ?_
    refine XS.iadd X2.here hx rfl (hb hby d36_8) rfl ?_
    refine XS.aloadN X2.here hx rfl (hb hby d36_9) rfl rfl ?_
    refine st4 _ ?_
    refine XS.iadd X4.here hx rfl (hb hby d36_13) rfl ?_
    show Steps _ _ _ (State.setTop _ (mkF m 14 #[rv ob, rv st_, .val .null, rv od, .unset, .unset, .unset] [(.int ((((1 : Int32) + n_) + 2) + 1))])) _
    refine XS.istore X4.here hx rfl (hb hby d36_14) rfl (l' := #[rv ob, rv st_, .val .null, rv od, iv ((((1 : Int32) + n_) + 2) + 1), .unset, .unset]) rfl ?_
    refine XS.aloadN X4.here hx rfl (hb hby d36_16) rfl rfl ?_
    refine st6 _ ?_
    refine XS.iload X6.here hx rfl (hb hby d36_20) rfl ?_
    refine XS.iadd X6.here hx rfl (hb hby d36_22) rfl ?_
    refine XS.aloadN X6.here hx rfl (hb hby d36_23) rfl rfl ?_
    refine st7 _ ?_
    refine X7.arraylength hx (by rw [e7]; exact Ar8.1) (State.isArrayOf_alike hZ.alike Ar8.2.1) (g := (mkF m 27 #[rv ob, rv st_, .val .null, rv od, iv ((((1 : Int32) + n_) + 2) + 1), .unset, .unset] [(.ref re), (.int (u_ + ((((1 : Int32) + n_) + 2) + 1)))])) rfl rfl (hb hby d36_27) _ ?_
    rw [len_of Sz8 Nn8]
    show Steps _ _ _ (State.setTop _ (mkF m 28 #[rv ob, rv st_, .val .null, rv od, iv ((((1 : Int32) + n_) + 2) + 1), .unset, .unset] [(.int 64), (.int (u_ + ((((1 : Int32) + n_) + 2) + 1)))])) _
    refine XS.icmpYes X7.here hx rfl (pc0 := 28) (pc' := 59) rfl (hb hby d36_28) rfl (flt hc9).2.2.2 (by decide) (by decide) ?_
    show Steps _ _ _ (State.setTop _ (mkF m 59 #[rv ob, rv st_, .val .null, rv od, iv ((((1 : Int32) + n_) + 2) + 1), .unset, .unset] [])) _
    refine XS.aloadN X7.here hx rfl (hb hby d36_59) rfl rfl ?_
    refine st10 _ ?_
    refine XS.istore X10.here hx rfl (hb hby d36_63) rfl (l' := #[rv ob, rv st_, .val .null, rv od, iv ((((1 : Int32) + n_) + 2) + 1), iv u_, .unset]) rfl ?_
    refine XS.aloadN X10.here hx rfl (hb hby d36_65) rfl rfl ?_
    refine st11 _ ?_
    refine XS.iload X11.here hx rfl (hb hby d36_69) rfl ?_
    refine XS.aloadN X11.here hx rfl (hb hby d36_71) rfl rfl ?_
    refine X11.arraylength hx (by rw [e11]; exact Ar12.1) (State.isArrayOf_alike hZ.alike Ar12.2.1) (g := (mkF m 72 #[rv ob, rv st_, .val .null, rv od, iv ((((1 : Int32) + n_) + 2) + 1), iv u_, .unset] [(.ref od), (.int u_), (.ref re)])) rfl rfl (hb hby d36_72) _ ?_
    rw [len_of Sz12 Nn12]
    show Steps _ _ _ (State.setTop _ (mkF m 73 #[rv ob, rv st_, .val .null, rv od, iv ((((1 : Int32) + n_) + 2) + 1), iv u_, .unset] [(.int n_), (.int u_), (.ref re)])) _
    refine st15 _ ?_
    show Steps _ _ _ (State.setTop _ (mkF m 74 #[rv ob, rv st_, .val .null, rv od, iv ((((1 : Int32) + n_) + 2) + 1), iv u_, .unset] [])) _
    refine XS.aloadN X15.here hx rfl (hb hby d36_74) rfl rfl ?_
    refine XS.iconst X15.here hx rfl (hb hby d36_75) ?_
    refine XS.aloadN X15.here hx rfl (hb hby d36_76) rfl rfl ?_
    refine st20 _ ?_
    refine XS.iload X20.here hx rfl (hb hby d36_80) rfl ?_
    refine XS.iconst X20.here hx rfl (hb hby d36_82) ?_
    refine XS.iadd X20.here hx rfl (hb hby d36_83) rfl ?_
    refine XS.aloadN X20.here hx rfl (hb hby d36_84) rfl rfl ?_
    refine X20.arraylength hx (by rw [e20]; exact Ar22.1) (State.isArrayOf_alike hZ.alike Ar22.2.1) (g := (mkF m 85 #[rv ob, rv st_, .val .null, rv od, iv ((((1 : Int32) + n_) + 2) + 1), iv u_, .unset] [(.ref od), (.int (u_ + 1)), (.ref re), (.int 0), (.ref od)])) rfl rfl (hb hby d36_85) _ ?_
    rw [len_of Sz22 Nn22]
    show Steps _ _ _ (State.setTop _ (mkF m 86 #[rv ob, rv st_, .val .null, rv od, iv ((((1 : Int32) + n_) + 2) + 1), iv u_, .unset] [(.int n_), (.int (u_ + 1)), (.ref re), (.int 0), (.ref od)])) _
    refine st23 _ ?_
    refine XS.aloadN X23.here hx rfl (hb hby d36_89) rfl rfl ?_
    refine XS.iload X23.here hx rfl (hb hby d36_90) rfl ?_
    refine XS.iconst X23.here hx rfl (hb hby d36_92) ?_
    refine XS.iadd X23.here hx rfl (hb hby d36_93) rfl ?_
    refine XS.aloadN X23.here hx rfl (hb hby d36_94) rfl rfl ?_
    refine X23.arraylength hx (by rw [e23]; exact Ar27.1) (State.isArrayOf_alike hZ.alike Ar27.2.1) (g := (mkF m 95 #[rv ob, rv st_, .val .null, rv od, iv ((((1 : Int32) + n_) + 2) + 1), iv u_, .unset] [(.ref od), (.int (u_ + 1)), (.ref ob)])) rfl rfl (hb hby d36_95) _ ?_
    rw [len_of Sz27 Nn27]
    show Steps _ _ _ (State.setTop _ (mkF m 96 #[rv ob, rv st_, .val .null, rv od, iv ((((1 : Int32) + n_) + 2) + 1), iv u_, .unset] [(.int n_), (.int (u_ + 1)), (.ref ob)])) _
    refine XS.iadd X23.here hx rfl (hb hby d36_96) rfl ?_
    refine XS.aloadN X23.here hx rfl (hb hby d36_97) rfl rfl ?_
    show Steps _ _ _ (State.setTop _ (mkF m 98 #[rv ob, rv st_, .val .null, rv od, iv ((((1 : Int32) + n_) + 2) + 1), iv u_, .unset] [(.ref st_), (.int ((u_ + 1) + n_)), (.ref ob)])) _
    refine st34.trans ?_
    refine XS.istore X34.here hx rfl (hb hby d36_101) rfl (l' := #[rv ob, rv st_, .val .null, rv od, iv ((((1 : Int32) + n_) + 2) + 1), iv u_, iv ((((u_ + 1) + n_) + 1) + 1)]) rfl ?_
    refine XS.aloadN X34.here hx rfl (hb hby d36_103) rfl rfl ?_
    refine XS.aloadN X34.here hx rfl (hb hby d36_104) rfl rfl ?_
    refine XS.iload X34.here hx rfl (hb hby d36_105) rfl ?_
    refine XS.aloadN X34.here hx rfl (hb hby d36_107) rfl rfl ?_
    refine st40.trans ?_
    refine st47 _ ?_
    refine XS.iload X47.here hx rfl (hb hby d36_114) rfl ?_
    show Steps _ _ _ (State.setTop _ (mkF m 116 #[rv ob, rv st_, .val .null, rv od, iv ((((1 : Int32) + n_) + 2) + 1), iv u_, iv ((((u_ + 1) + n_) + 1) + 1)] [(.int u_)])) _
    exact retI X47 hx Bd.returns (hb hby d36_116) hr
  · show Q_wr_2 Z _ _ _ _ _ _ _ _ _ _ _ _ _ _ _ _ _ h0 n0 _ T47.heap _
    rw [e47]
    exact ⟨rfl, N50, (K48), f51, f52, f53, f54, f55, f56, f49, f57⟩
theorem d43_0 : decode prog_25_method_28_code 0 = .ok (.aload_n 2, 1) := by decide +kernel
theorem d43_1 : decode prog_25_method_28_code 1 = .ok (.invokevirtual 144, 3) := by decide +kernel
theorem d43_4 : decode prog_25_method_28_code 4 = .ok (.istore_n 3, 1) := by decide +kernel
theorem d43_5 : decode prog_25_method_28_code 5 = .ok (.aload_n 0, 1) := by decide +kernel
theorem d43_6 : decode prog_25_method_28_code 6 = .ok (.getfield 30, 3) := by decide +kernel
theorem d43_9 : decode prog_25_method_28_code 9 = .ok (.iload_n 1, 1) := by decide +kernel
theorem d43_10 : decode prog_25_method_28_code 10 = .ok (.iaload, 1) := by decide +kernel
theorem d43_11 : decode prog_25_method_28_code 11 = .ok (.iload_n 3, 1) := by decide +kernel
theorem d43_12 : decode prog_25_method_28_code 12 = .ok (.if_icmp .eq 5, 3) := by decide +kernel
theorem d43_17 : decode prog_25_method_28_code 17 = .ok (.iload_n 1, 1) := by decide +kernel
theorem d43_18 : decode prog_25_method_28_code 18 = .ok (.iconst 1, 1) := by decide +kernel
theorem d43_19 : decode prog_25_method_28_code 19 = .ok (.iadd, 1) := by decide +kernel
theorem d43_20 : decode prog_25_method_28_code 20 = .ok (.istore 4, 2) := by decide +kernel
theorem d43_22 : decode prog_25_method_28_code 22 = .ok (.iconst 0, 1) := by decide +kernel
theorem d43_23 : decode prog_25_method_28_code 23 = .ok (.istore 5, 2) := by decide +kernel
theorem d43_25 : decode prog_25_method_28_code 25 = .ok (.iload 5, 2) := by decide +kernel
theorem d43_27 : decode prog_25_method_28_code 27 = .ok (.iload_n 3, 1) := by decide +kernel
theorem d43_28 : decode prog_25_method_28_code 28 = .ok (.if_icmp .ge 30, 3) := by decide +kernel
theorem d43_31 : decode prog_25_method_28_code 31 = .ok (.aload_n 0, 1) := by decide +kernel
theorem d43_32 : decode prog_25_method_28_code 32 = .ok (.getfield 30, 3) := by decide +kernel
theorem d43_35 : decode prog_25_method_28_code 35 = .ok (.iload 4, 2) := by decide +kernel
theorem d43_37 : decode prog_25_method_28_code 37 = .ok (.iinc 4 1, 3) := by decide +kernel
theorem d43_40 : decode prog_25_method_28_code 40 = .ok (.iaload, 1) := by decide +kernel
theorem d43_41 : decode prog_25_method_28_code 41 = .ok (.aload_n 2, 1) := by decide +kernel
theorem d43_42 : decode prog_25_method_28_code 42 = .ok (.iload 5, 2) := by decide +kernel
theorem d43_44 : decode prog_25_method_28_code 44 = .ok (.invokestatic 149, 3) := by decide +kernel
theorem d43_47 : decode prog_25_method_28_code 47 = .ok (.if_icmp .eq 5, 3) := by decide +kernel
theorem d43_52 : decode prog_25_method_28_code 52 = .ok (.iinc 5 2, 3) := by decide +kernel
theorem d43_55 : decode prog_25_method_28_code 55 = .ok (.goto (-30), 3) := by decide +kernel
theorem d43_58 : decode prog_25_method_28_code 58 = .ok (.iload 4, 2) := by decide +kernel
theorem d43_60 : decode prog_25_method_28_code 60 = .ok (.ireturn, 1) := by decide +kernel
theorem ef_mt_1 (m : MethodId) (x0 : Addr) (x1 : Int32) (x2 : Addr) : entryFrame m #[(.ref x0), (.int x1), (.ref x2)] 6 = mkF m 0 #[rv x0, iv x1, rv x2, .unset, .unset, .unset] [] := by first | (simp [entryFrame, mkF, argsToLocals, Value.category]; done) | rfl
def Q_mt_1 (Z : State) (at_ : Int32) (ob re : Addr) (RL : List Int32) (st_ sv_ : Addr) (c0 cs : Int32) (fm : Value) (h0 : Heap) (n0 : Nat) (v : Option Value) (h : Heap) (L : List Loc) : Prop := v = some (.int ((at_ + 1) + 1)) ∧ Fr n0 L ∧ h = h0
set_option maxRecDepth 65536 in
set_option maxHeartbeats 40000000 in
theorem mt_1 (l : Launch) (Z : State) (a0 : Array Value) (hw : ∀ d ∈ tables_1, d.before a0 Z = true) (ws : List Jvm.Cond) (at_ : Int32) (ob re : Addr) (RL : List Int32) (st_ sv_ : Addr) (c0 cs : Int32) (fm : Value) (h0 : Heap) (n0 : Nat) (Z0 : n0 ≤ h0.size) (pf_O : Old Z n0 h0) (pS_COMPAC : Sta Z Z.heap "java/lang/String" "COMPACT_STRINGS" "Z" (.int cs)) (hcs : ¬ (cs = 0)) (pS_SIOOBE : Sta Z Z.heap "jdk/internal/util/Preconditions" "SIOOBE_FORMATTER" "Ljava/util/function/BiFunction;" fm) (rfm : fm.isRef = true) (pf_E_st_ : Exa Z h0 st_ "java/lang/String") (pf_F_st__value : Fld Z h0 st_ "java/lang/String" "value" "[B" (.ref sv_)) (pf_F_st__coder : Fld Z h0 st_ "java/lang/String" "coder" "B" (.int 0)) (pf_A_sv_ : Av Z h0 sv_ .byte (1 : Int32) (own_vs [c0]) (.int 0)) (hrA : ∀ c ∈ ([c0] : List Int32), ¬ c < 0 ∧ ¬ (255 : Int32) < c) (pf_E_ob : Exa Z h0 ob "com/example/arbiter/arbiter/OrdinalTable") (pf_F_ob_records : Fld Z h0 ob "com/example/arbiter/arbiter/OrdinalTable" "records" "[I" (.ref re)) (pf_A_re : Av Z h0 re .int 64 (own_cv RL) (.int 0)) (hRL : RL.length = 64) (hat : 0 ≤ at_.toInt ∧ at_.toInt < 62) (hg0 : (own_g RL at_) = 1) (hg1 : (own_g RL (at_ + 1)) = c0) :
    MetFree l MN43 (head1 (Jvm.Cond.code MN43 prog_25_method_28_code 6 (some .int) :: ws) (Room.mk 5 0 0 68)) (fun a U => a = #[(.ref ob), (.int at_), (.ref st_)] ∧ Z.Warmed39 U.vm ∧ U.heap = h0) (fun _ _ _ _ _ => True) (fun _ U o U' => ∃ v L, o = .returned v ∧ Q_mt_1 Z at_ ob re RL st_ sv_ c0 cs fm h0 n0 v U'.heap L ∧ FrameEnd U o U' L (Room.mk 5 0 0 68).cells (Room.mk 5 0 0 68).slots) := by
  refine MetFree.of_bodySF (plainFor_of_name pn_com_example_arbiter_arbiter_OrdinalTable) hisR ?_
  intro p e s m args below meth c s₁ Bd hml0 hP hK
  obtain ⟨rfl, hZ, hh⟩ := hP
  have hx := Bd.exec
  have hby := Bd.bytes
  have hml : c.maxLocals = 6 := hml0
  have hown : s.vm.findClass "com/example/arbiter/arbiter/OrdinalTable" = some m.cls := findClass_of_methodNamed Bd.named
  have hnm := (name_of_methodNamed Bd.named Bd.method).1
  have X0 : Stand p l e (Room.mk 5 0 0 68) s m #[(.ref ob), (.int at_), (.ref st_)] below meth c s₁ [] 0 0 := Stand.of_body Bd
  have e0 : s₁.heap = h0 := by rw [← hh, Bd.state]; rfl
  have N0 := Fr.nil n0
  have pre0 : ∀ t, Steps p.tables e below (s₁.setTop (mkF m 0 #[rv ob, iv at_, rv st_, .unset, .unset, .unset] [])) t → Steps p.tables e below (s₁.setTop (entryFrame m #[(.ref ob), (.int at_), (.ref st_)] 6)) t := fun t k => castTop (ef_mt_1 m ob at_ st_) k
  have wo17 := hw _ (own_m 17 rfl)
  have wo50 := hw _ (own_m 50 rfl)
  have wo51 := hw _ (own_m 51 rfl)
  have wo52 := hw _ (own_m 52 rfl)
  have wo123 := hw _ (own_m 123 rfl)
  have wo134 := hw _ (own_m 134 rfl)
  have wo161 := hw _ (own_m 161 rfl)
  have wo162 := hw _ (own_m 162 rfl)
  have wo163 := hw _ (own_m 163 rfl)
  have wo164 := hw _ (own_m 164 rfl)
  obtain ⟨kv2, hv3⟩ := id pf_A_sv_
  have hws1 : ∀ d ∈ StrChars.Road.wordsLen, d.before a0 Z = true := fun d hd => hw d ((by decide +kernel : ∀ d ∈ StrChars.Road.wordsLen, d ∈ tables_1) d hd)
  obtain ⟨cq1, kq1, q1a, q1b, q1c⟩ := isOf hZ e0 pf_E_st_
  obtain ⟨_, _, ⟨T1, L1, k1, n1⟩, -, X1, ⟨Lc1, hQ1, l1, y1, z1⟩, st1⟩ := X0.virtualBack hx (y := MN10) (z := MN10) hown (mvT hZ wo161) (mvT hZ wo50) (notFace_of_selects (args := #[]) (mvT hZ wo52)) (mvT hZ wo52) (mvT hZ wo51) (by decide) (StrChars.Road.lenW (W := 0) hZ hws1 (kI := 4) wo17 pf_E_st_ pf_F_st__value pf_F_st__coder hv3 (own_cod (by rfl) hrA) (own_wid hrA) (pS_COMPAC.ext pf_O.2) hcs (Nat.le_of_ble_eq_true rfl) (by decide) (by decide)) q1a q1c (g := (mkF m 1 #[rv ob, iv at_, rv st_, .unset, .unset, .unset] [(.ref st_)])) rfl (by rw [hml]; rfl) (Steps.refl _) (argsL := []) (rest := []) (lenOf pd_1 rfl) rfl (by show 2 * 0 + _ ≤ _; exact Nat.le_of_eq rfl) (hb hby d43_1) (fun _ _ => ⟨rfl, e0, (by decide : 0 + 0 ≤ _), (by decide : 0 + 0 ≤ _)⟩)
  dsimp only [Pt.U, Pt.locs, Pt.cells, Pt.slots] at X1 l1 y1 z1 st1 hQ1
  rw [l1, y1, z1] at X1
  obtain ⟨rfl, hl1, K1q⟩ := hQ1
  rw [hl1, List.append_nil] at X1
  obtain ⟨T4, X4, e4, st4⟩ := getF X1 hx hZ hown (host := "") (Or.inl wo134) Via.refl K1q pf_F_ob_records (g := (mkF m 6 #[rv ob, iv at_, rv st_, iv 1, .unset, .unset] [(.ref ob)])) rfl rfl (hb hby d43_6)
  obtain ⟨kk5, cl5, Ar5, qq5, Sz5, Nn5, Hs5, Gf5⟩ := id pf_A_re
  have hin6 : ¬ (at_ < 0 ∨ cl5.slots.size ≤ (at_).toNatClampNeg) := inb_of Sz5 (own_j hat).1
  have hat7 : cl5.slots[(at_).toNatClampNeg]? = some (.int (own_g RL at_)) := Has.at Hs5 hin6 (own_cvg _ _)
  obtain ⟨T8, X8, e8, st8⟩ := getF X4 hx hZ hown (host := "") (Or.inl wo134) Via.refl e4 pf_F_ob_records (g := (mkF m 32 #[rv ob, iv at_, rv st_, iv 1, iv (at_ + 1), iv 0] [(.ref ob)])) rfl rfl (hb hby d43_32)
  obtain ⟨kk9, cl9, Ar9, qq9, Sz9, Nn9, Hs9, Gf9⟩ := id pf_A_re
  have hin10 : ¬ ((at_ + 1) < 0 ∨ cl9.slots.size ≤ ((at_ + 1)).toNatClampNeg) := inb_of Sz9 (own_j hat).2
  have hat11 : cl9.slots[((at_ + 1)).toNatClampNeg]? = some (.int (own_g RL (at_ + 1))) := Has.at Hs9 hin10 (own_cvg _ _)
  obtain ⟨_, _, ⟨T12, L12, k12, n12⟩, -, X12, ⟨Lc12, hQ12, l12, y12, z12⟩, st12⟩ := Jvm.LawKit.callS X8 hx (y := MN33) hown (mvT hZ wo162) (mvT hZ wo163) (mvT hZ wo123) (mvT hZ wo164) (by decide) (backOf (W := 1) (wd_1 l Z a0 hw [] st_ sv_ c0 cs fm h0 n0 Z0 pf_O pS_COMPAC hcs pS_SIOOBE rfm pf_E_st_ pf_F_st__value pf_F_st__coder pf_A_sv_ hrA) hZ wo164 wo123 (by decide) (by decide)) (g := (mkF m 44 #[rv ob, iv at_, rv st_, iv 1, iv ((at_ + 1) + 1), iv 0] [(.int 0), (.ref st_), (.int (own_g RL (at_ + 1)))])) rfl (by rw [hml]; rfl) (argsL := [(.ref st_), (.int 0)]) (rest := [(.int (own_g RL (at_ + 1)))]) (lenOf pd_28 rfl) rfl (by show 2 * 0 + _ ≤ _; exact Nat.le_of_eq rfl) (hb hby d43_44) (fun _ _ => ⟨rfl, e8, (by decide : 0 + 0 ≤ _), (by decide : 0 + 0 ≤ _)⟩)
  dsimp only [Pt.U, Pt.locs, Pt.cells, Pt.slots] at X12 l12 y12 z12 st12 hQ12
  rw [l12, y12, z12] at X12
  obtain ⟨rfl, N12q, K12q⟩ := hQ12
  have N13 := Fr.app N0 N12q
  obtain ⟨fs, hr, hrun, hended, hW, hsame⟩ := X12.leave (v := some (.int ((at_ + 1) + 1))) (fun h => by rw [Bd.returns] at h; cases h)
  refine ⟨_, _, pre0 _ ?_, hrun, hended, _, _, rfl, ?_, ⟨_, rfl⟩, hW, hsame.mono (by decide) (by decide)⟩
  · show Steps _ _ _ (State.setTop _ (mkF m 0 #[rv ob, iv at_, rv st_, .unset, .unset, .unset] [])) _
    refine XS.aloadN X0.here hx rfl (hb hby d43_0) rfl rfl ?_
    show Steps _ _ _ (State.setTop _ (mkF m 1 #[rv ob, iv at_, rv st_, .unset, .unset, .unset] [(.ref st_)])) _
    refine st1.trans ?_
    refine XS.istoreN X1.here hx rfl (hb hby d43_4) rfl (l' := #[rv ob, iv at_, rv st_, iv 1, .unset, .unset]) rfl ?_
    refine XS.aloadN X1.here hx rfl (hb hby d43_5) rfl rfl ?_
    refine st4 _ ?_
    refine XS.iloadN X4.here hx rfl (hb hby d43_9) rfl ?_
    refine X4.iaload hx (j := at_) (v := (.int (own_g RL at_))) (by rw [e4]; exact Ar5.1) (State.isArrayOf_alike hZ.alike Ar5.2.1) Ar5.2.2 hin6 hat7 (g := (mkF m 10 #[rv ob, iv at_, rv st_, iv 1, .unset, .unset] [(.int at_), (.ref re)])) rfl rfl (hb hby d43_10) _ ?_
    refine XS.iloadN X4.here hx rfl (hb hby d43_11) rfl ?_
    refine XS.icmpYes X4.here hx rfl (pc0 := 12) (pc' := 17) rfl (hb hby d43_12) rfl (teq hg0).1 (by decide) (by decide) ?_
    refine XS.iloadN X4.here hx rfl (hb hby d43_17) rfl ?_
    show Steps _ _ _ (State.setTop _ (mkF m 18 #[rv ob, iv at_, rv st_, iv 1, .unset, .unset] [(.int at_)])) _
    refine XS.iconst X4.here hx rfl (hb hby d43_18) ?_
    refine XS.iadd X4.here hx rfl (hb hby d43_19) rfl ?_
    refine XS.istore X4.here hx rfl (hb hby d43_20) rfl (l' := #[rv ob, iv at_, rv st_, iv 1, iv (at_ + 1), .unset]) rfl ?_
    refine XS.iconst X4.here hx rfl (hb hby d43_22) ?_
    refine XS.istore X4.here hx rfl (hb hby d43_23) rfl (l' := #[rv ob, iv at_, rv st_, iv 1, iv (at_ + 1), iv 0]) rfl ?_
    refine XS.iload X4.here hx rfl (hb hby d43_25) rfl ?_
    refine XS.iloadN X4.here hx rfl (hb hby d43_27) rfl ?_
    refine XS.icmpNo X4.here hx rfl (hb hby d43_28) rfl (tlt (by decide : (0 : Int32) < 1)).2.1 ?_
    refine XS.aloadN X4.here hx rfl (hb hby d43_31) rfl rfl ?_
    show Steps _ _ _ (State.setTop _ (mkF m 32 #[rv ob, iv at_, rv st_, iv 1, iv (at_ + 1), iv 0] [(.ref ob)])) _
    refine st8 _ ?_
    refine XS.iload X8.here hx rfl (hb hby d43_35) rfl ?_
    refine XS.iinc X8.here hx rfl (hb hby d43_37) rfl (l' := #[rv ob, iv at_, rv st_, iv 1, iv ((at_ + 1) + 1), iv 0]) rfl ?_
    refine X8.iaload hx (j := (at_ + 1)) (v := (.int (own_g RL (at_ + 1)))) (by rw [e8]; exact Ar9.1) (State.isArrayOf_alike hZ.alike Ar9.2.1) Ar9.2.2 hin10 hat11 (g := (mkF m 40 #[rv ob, iv at_, rv st_, iv 1, iv ((at_ + 1) + 1), iv 0] [(.int (at_ + 1)), (.ref re)])) rfl rfl (hb hby d43_40) _ ?_
    refine XS.aloadN X8.here hx rfl (hb hby d43_41) rfl rfl ?_
    refine XS.iload X8.here hx rfl (hb hby d43_42) rfl ?_
    refine st12 _ ?_
    refine XS.icmpYes X12.here hx rfl (pc0 := 47) (pc' := 52) rfl (hb hby d43_47) rfl (teq hg1).1 (by decide) (by decide) ?_
    refine XS.iinc X12.here hx rfl (hb hby d43_52) rfl (l' := #[rv ob, iv at_, rv st_, iv 1, iv ((at_ + 1) + 1), iv 2]) rfl ?_
    show Steps _ _ _ (State.setTop _ (mkF m 55 #[rv ob, iv at_, rv st_, iv 1, iv ((at_ + 1) + 1), iv 2] [])) _
    refine XS.goto X12.here hx rfl (pc0 := 55) (pc' := 25) rfl (hb hby d43_55) (by decide) (by decide) ?_
    refine XS.iload X12.here hx rfl (hb hby d43_25) rfl ?_
    refine XS.iloadN X12.here hx rfl (hb hby d43_27) rfl ?_
    refine XS.icmpYes X12.here hx rfl (pc0 := 28) (pc' := 58) rfl (hb hby d43_28) rfl (flt (by decide : ¬ ((2 : Int32) < 1))).2.1 (by decide) (by decide) ?_
    refine XS.iload X12.here hx rfl (hb hby d43_58) rfl ?_
    show Steps _ _ _ (State.setTop _ (mkF m 60 #[rv ob, iv at_, rv st_, iv 1, iv ((at_ + 1) + 1), iv 2] [(.int ((at_ + 1) + 1))])) _
    exact retI X12 hx Bd.returns (hb hby d43_60) hr
  · show Q_mt_1 Z _ _ _ _ _ _ _ _ _ h0 n0 _ T12.heap _
    rw [K12q]
    exact ⟨rfl, N13, rfl⟩
theorem ef_mt_2 (m : MethodId) (x0 : Addr) (x1 : Int32) (x2 : Addr) : entryFrame m #[(.ref x0), (.int x1), (.ref x2)] 6 = mkF m 0 #[rv x0, iv x1, rv x2, .unset, .unset, .unset] [] := by first | (simp [entryFrame, mkF, argsToLocals, Value.category]; done) | rfl
def Q_mt_2 (Z : State) (at_ : Int32) (ob re : Addr) (RL : List Int32) (st_ sv_ : Addr) (c0 c1 cs : Int32) (fm : Value) (h0 : Heap) (n0 : Nat) (v : Option Value) (h : Heap) (L : List Loc) : Prop := v = some (.int ((at_ + 1) + 1)) ∧ Fr n0 L ∧ h = h0
set_option maxRecDepth 65536 in
set_option maxHeartbeats 40000000 in
theorem mt_2 (l : Launch) (Z : State) (a0 : Array Value) (hw : ∀ d ∈ tables_1, d.before a0 Z = true) (ws : List Jvm.Cond) (at_ : Int32) (ob re : Addr) (RL : List Int32) (st_ sv_ : Addr) (c0 c1 cs : Int32) (fm : Value) (h0 : Heap) (n0 : Nat) (Z0 : n0 ≤ h0.size) (pf_O : Old Z n0 h0) (pS_COMPAC : Sta Z Z.heap "java/lang/String" "COMPACT_STRINGS" "Z" (.int cs)) (hcs : ¬ (cs = 0)) (pS_SIOOBE : Sta Z Z.heap "jdk/internal/util/Preconditions" "SIOOBE_FORMATTER" "Ljava/util/function/BiFunction;" fm) (rfm : fm.isRef = true) (pf_E_st_ : Exa Z h0 st_ "java/lang/String") (pf_F_st__value : Fld Z h0 st_ "java/lang/String" "value" "[B" (.ref sv_)) (pf_F_st__coder : Fld Z h0 st_ "java/lang/String" "coder" "B" (.int 0)) (pf_A_sv_ : Av Z h0 sv_ .byte (2 : Int32) (own_vs [c0, c1]) (.int 0)) (hrA : ∀ c ∈ ([c0, c1] : List Int32), ¬ c < 0 ∧ ¬ (255 : Int32) < c) (pf_E_ob : Exa Z h0 ob "com/example/arbiter/arbiter/OrdinalTable") (pf_F_ob_records : Fld Z h0 ob "com/example/arbiter/arbiter/OrdinalTable" "records" "[I" (.ref re)) (pf_A_re : Av Z h0 re .int 64 (own_cv RL) (.int 0)) (hRL : RL.length = 64) (hat : 0 ≤ at_.toInt ∧ at_.toInt < 62) (hg0 : (own_g RL at_) = 2) (hg1 : (own_g RL (at_ + 1)) = (c0 ||| (c1 <<< ((16 : Int32) &&& 31)))) :
    MetFree l MN43 (head1 (Jvm.Cond.code MN43 prog_25_method_28_code 6 (some .int) :: ws) (Room.mk 5 0 0 69)) (fun a U => a = #[(.ref ob), (.int at_), (.ref st_)] ∧ Z.Warmed39 U.vm ∧ U.heap = h0) (fun _ _ _ _ _ => True) (fun _ U o U' => ∃ v L, o = .returned v ∧ Q_mt_2 Z at_ ob re RL st_ sv_ c0 c1 cs fm h0 n0 v U'.heap L ∧ FrameEnd U o U' L (Room.mk 5 0 0 69).cells (Room.mk 5 0 0 69).slots) := by
  refine MetFree.of_bodySF (plainFor_of_name pn_com_example_arbiter_arbiter_OrdinalTable) hisR ?_
  intro p e s m args below meth c s₁ Bd hml0 hP hK
  obtain ⟨rfl, hZ, hh⟩ := hP
  have hx := Bd.exec
  have hby := Bd.bytes
  have hml : c.maxLocals = 6 := hml0
  have hown : s.vm.findClass "com/example/arbiter/arbiter/OrdinalTable" = some m.cls := findClass_of_methodNamed Bd.named
  have hnm := (name_of_methodNamed Bd.named Bd.method).1
  have X0 : Stand p l e (Room.mk 5 0 0 69) s m #[(.ref ob), (.int at_), (.ref st_)] below meth c s₁ [] 0 0 := Stand.of_body Bd
  have e0 : s₁.heap = h0 := by rw [← hh, Bd.state]; rfl
  have N0 := Fr.nil n0
  have pre0 : ∀ t, Steps p.tables e below (s₁.setTop (mkF m 0 #[rv ob, iv at_, rv st_, .unset, .unset, .unset] [])) t → Steps p.tables e below (s₁.setTop (entryFrame m #[(.ref ob), (.int at_), (.ref st_)] 6)) t := fun t k => castTop (ef_mt_2 m ob at_ st_) k
  have wo17 := hw _ (own_m 17 rfl)
  have wo50 := hw _ (own_m 50 rfl)
  have wo51 := hw _ (own_m 51 rfl)
  have wo52 := hw _ (own_m 52 rfl)
  have wo123 := hw _ (own_m 123 rfl)
  have wo134 := hw _ (own_m 134 rfl)
  have wo161 := hw _ (own_m 161 rfl)
  have wo162 := hw _ (own_m 162 rfl)
  have wo163 := hw _ (own_m 163 rfl)
  have wo164 := hw _ (own_m 164 rfl)
  obtain ⟨kv2, hv3⟩ := id pf_A_sv_
  have hws1 : ∀ d ∈ StrChars.Road.wordsLen, d.before a0 Z = true := fun d hd => hw d ((by decide +kernel : ∀ d ∈ StrChars.Road.wordsLen, d ∈ tables_1) d hd)
  obtain ⟨cq1, kq1, q1a, q1b, q1c⟩ := isOf hZ e0 pf_E_st_
  obtain ⟨_, _, ⟨T1, L1, k1, n1⟩, -, X1, ⟨Lc1, hQ1, l1, y1, z1⟩, st1⟩ := X0.virtualBack hx (y := MN10) (z := MN10) hown (mvT hZ wo161) (mvT hZ wo50) (notFace_of_selects (args := #[]) (mvT hZ wo52)) (mvT hZ wo52) (mvT hZ wo51) (by decide) (StrChars.Road.lenW (W := 0) hZ hws1 (kI := 4) wo17 pf_E_st_ pf_F_st__value pf_F_st__coder hv3 (own_cod (by rfl) hrA) (own_wid hrA) (pS_COMPAC.ext pf_O.2) hcs (Nat.le_of_ble_eq_true rfl) (by decide) (by decide)) q1a q1c (g := (mkF m 1 #[rv ob, iv at_, rv st_, .unset, .unset, .unset] [(.ref st_)])) rfl (by rw [hml]; rfl) (Steps.refl _) (argsL := []) (rest := []) (lenOf pd_1 rfl) rfl (by show 2 * 0 + _ ≤ _; exact Nat.le_of_eq rfl) (hb hby d43_1) (fun _ _ => ⟨rfl, e0, (by decide : 0 + 0 ≤ _), (by decide : 0 + 0 ≤ _)⟩)
  dsimp only [Pt.U, Pt.locs, Pt.cells, Pt.slots] at X1 l1 y1 z1 st1 hQ1
  rw [l1, y1, z1] at X1
  obtain ⟨rfl, hl1, K1q⟩ := hQ1
  rw [hl1, List.append_nil] at X1
  obtain ⟨T4, X4, e4, st4⟩ := getF X1 hx hZ hown (host := "") (Or.inl wo134) Via.refl K1q pf_F_ob_records (g := (mkF m 6 #[rv ob, iv at_, rv st_, iv 2, .unset, .unset] [(.ref ob)])) rfl rfl (hb hby d43_6)
  obtain ⟨kk5, cl5, Ar5, qq5, Sz5, Nn5, Hs5, Gf5⟩ := id pf_A_re
  have hin6 : ¬ (at_ < 0 ∨ cl5.slots.size ≤ (at_).toNatClampNeg) := inb_of Sz5 (own_j hat).1
  have hat7 : cl5.slots[(at_).toNatClampNeg]? = some (.int (own_g RL at_)) := Has.at Hs5 hin6 (own_cvg _ _)
  obtain ⟨T8, X8, e8, st8⟩ := getF X4 hx hZ hown (host := "") (Or.inl wo134) Via.refl e4 pf_F_ob_records (g := (mkF m 32 #[rv ob, iv at_, rv st_, iv 2, iv (at_ + 1), iv 0] [(.ref ob)])) rfl rfl (hb hby d43_32)
  obtain ⟨kk9, cl9, Ar9, qq9, Sz9, Nn9, Hs9, Gf9⟩ := id pf_A_re
  have hin10 : ¬ ((at_ + 1) < 0 ∨ cl9.slots.size ≤ ((at_ + 1)).toNatClampNeg) := inb_of Sz9 (own_j hat).2
  have hat11 : cl9.slots[((at_ + 1)).toNatClampNeg]? = some (.int (own_g RL (at_ + 1))) := Has.at Hs9 hin10 (own_cvg _ _)
  obtain ⟨_, _, ⟨T12, L12, k12, n12⟩, -, X12, ⟨Lc12, hQ12, l12, y12, z12⟩, st12⟩ := Jvm.LawKit.callS X8 hx (y := MN33) hown (mvT hZ wo162) (mvT hZ wo163) (mvT hZ wo123) (mvT hZ wo164) (by decide) (backOf (W := 1) (wd_2 l Z a0 hw [] st_ sv_ c0 c1 cs fm h0 n0 Z0 pf_O pS_COMPAC hcs pS_SIOOBE rfm pf_E_st_ pf_F_st__value pf_F_st__coder pf_A_sv_ hrA) hZ wo164 wo123 (by decide) (by decide)) (g := (mkF m 44 #[rv ob, iv at_, rv st_, iv 2, iv ((at_ + 1) + 1), iv 0] [(.int 0), (.ref st_), (.int (own_g RL (at_ + 1)))])) rfl (by rw [hml]; rfl) (argsL := [(.ref st_), (.int 0)]) (rest := [(.int (own_g RL (at_ + 1)))]) (lenOf pd_28 rfl) rfl (by show 2 * 0 + _ ≤ _; exact Nat.le_of_eq rfl) (hb hby d43_44) (fun _ _ => ⟨rfl, e8, (by decide : 0 + 0 ≤ _), (by decide : 0 + 0 ≤ _)⟩)
  dsimp only [Pt.U, Pt.locs, Pt.cells, Pt.slots] at X12 l12 y12 z12 st12 hQ12
  rw [l12, y12, z12] at X12
  obtain ⟨rfl, N12q, K12q⟩ := hQ12
  have N13 := Fr.app N0 N12q
  obtain ⟨fs, hr, hrun, hended, hW, hsame⟩ := X12.leave (v := some (.int ((at_ + 1) + 1))) (fun h => by rw [Bd.returns] at h; cases h)
  refine ⟨_, _, pre0 _ ?_, hrun, hended, _, _, rfl, ?_, ⟨_, rfl⟩, hW, hsame.mono (by decide) (by decide)⟩
  · show Steps _ _ _ (State.setTop _ (mkF m 0 #[rv ob, iv at_, rv st_, .unset, .unset, .unset] [])) _
    refine XS.aloadN X0.here hx rfl (hb hby d43_0) rfl rfl ?_
    show Steps _ _ _ (State.setTop _ (mkF m 1 #[rv ob, iv at_, rv st_, .unset, .unset, .unset] [(.ref st_)])) _
    refine st1.trans ?_
    refine XS.istoreN X1.here hx rfl (hb hby d43_4) rfl (l' := #[rv ob, iv at_, rv st_, iv 2, .unset, .unset]) rfl ?_
    refine XS.aloadN X1.here hx rfl (hb hby d43_5) rfl rfl ?_
    refine st4 _ ?_
    refine XS.iloadN X4.here hx rfl (hb hby d43_9) rfl ?_
    refine X4.iaload hx (j := at_) (v := (.int (own_g RL at_))) (by rw [e4]; exact Ar5.1) (State.isArrayOf_alike hZ.alike Ar5.2.1) Ar5.2.2 hin6 hat7 (g := (mkF m 10 #[rv ob, iv at_, rv st_, iv 2, .unset, .unset] [(.int at_), (.ref re)])) rfl rfl (hb hby d43_10) _ ?_
    refine XS.iloadN X4.here hx rfl (hb hby d43_11) rfl ?_
    refine XS.icmpYes X4.here hx rfl (pc0 := 12) (pc' := 17) rfl (hb hby d43_12) rfl (teq hg0).1 (by decide) (by decide) ?_
    refine XS.iloadN X4.here hx rfl (hb hby d43_17) rfl ?_
    show Steps _ _ _ (State.setTop _ (mkF m 18 #[rv ob, iv at_, rv st_, iv 2, .unset, .unset] [(.int at_)])) _
    refine XS.iconst X4.here hx rfl (hb hby d43_18) ?_
    refine XS.iadd X4.here hx rfl (hb hby d43_19) rfl ?_
    refine XS.istore X4.here hx rfl (hb hby d43_20) rfl (l' := #[rv ob, iv at_, rv st_, iv 2, iv (at_ + 1), .unset]) rfl ?_
    refine XS.iconst X4.here hx rfl (hb hby d43_22) ?_
    refine XS.istore X4.here hx rfl (hb hby d43_23) rfl (l' := #[rv ob, iv at_, rv st_, iv 2, iv (at_ + 1), iv 0]) rfl ?_
    refine XS.iload X4.here hx rfl (hb hby d43_25) rfl ?_
    refine XS.iloadN X4.here hx rfl (hb hby d43_27) rfl ?_
    refine XS.icmpNo X4.here hx rfl (hb hby d43_28) rfl (tlt (by decide : (0 : Int32) < 2)).2.1 ?_
    refine XS.aloadN X4.here hx rfl (hb hby d43_31) rfl rfl ?_
    show Steps _ _ _ (State.setTop _ (mkF m 32 #[rv ob, iv at_, rv st_, iv 2, iv (at_ + 1), iv 0] [(.ref ob)])) _
    refine st8 _ ?_
    refine XS.iload X8.here hx rfl (hb hby d43_35) rfl ?_
    refine XS.iinc X8.here hx rfl (hb hby d43_37) rfl (l' := #[rv ob, iv at_, rv st_, iv 2, iv ((at_ + 1) + 1), iv 0]) rfl ?_
    refine X8.iaload hx (j := (at_ + 1)) (v := (.int (own_g RL (at_ + 1)))) (by rw [e8]; exact Ar9.1) (State.isArrayOf_alike hZ.alike Ar9.2.1) Ar9.2.2 hin10 hat11 (g := (mkF m 40 #[rv ob, iv at_, rv st_, iv 2, iv ((at_ + 1) + 1), iv 0] [(.int (at_ + 1)), (.ref re)])) rfl rfl (hb hby d43_40) _ ?_
    refine XS.aloadN X8.here hx rfl (hb hby d43_41) rfl rfl ?_
    refine XS.iload X8.here hx rfl (hb hby d43_42) rfl ?_
    refine st12 _ ?_
    refine XS.icmpYes X12.here hx rfl (pc0 := 47) (pc' := 52) rfl (hb hby d43_47) rfl (teq hg1).1 (by decide) (by decide) ?_
    refine XS.iinc X12.here hx rfl (hb hby d43_52) rfl (l' := #[rv ob, iv at_, rv st_, iv 2, iv ((at_ + 1) + 1), iv 2]) rfl ?_
    show Steps _ _ _ (State.setTop _ (mkF m 55 #[rv ob, iv at_, rv st_, iv 2, iv ((at_ + 1) + 1), iv 2] [])) _
    refine XS.goto X12.here hx rfl (pc0 := 55) (pc' := 25) rfl (hb hby d43_55) (by decide) (by decide) ?_
    refine XS.iload X12.here hx rfl (hb hby d43_25) rfl ?_
    refine XS.iloadN X12.here hx rfl (hb hby d43_27) rfl ?_
    refine XS.icmpYes X12.here hx rfl (pc0 := 28) (pc' := 58) rfl (hb hby d43_28) rfl (flt (by decide : ¬ ((2 : Int32) < 2))).2.1 (by decide) (by decide) ?_
    refine XS.iload X12.here hx rfl (hb hby d43_58) rfl ?_
    show Steps _ _ _ (State.setTop _ (mkF m 60 #[rv ob, iv at_, rv st_, iv 2, iv ((at_ + 1) + 1), iv 2] [(.int ((at_ + 1) + 1))])) _
    exact retI X12 hx Bd.returns (hb hby d43_60) hr
  · show Q_mt_2 Z _ _ _ _ _ _ _ _ _ _ h0 n0 _ T12.heap _
    rw [K12q]
    exact ⟨rfl, N13, rfl⟩
theorem d43_15 : decode prog_25_method_28_code 15 = .ok (.iconst (-1), 1) := by decide +kernel
theorem d43_16 : decode prog_25_method_28_code 16 = .ok (.ireturn, 1) := by decide +kernel
theorem ef_mt_2m (m : MethodId) (x0 : Addr) (x1 : Int32) (x2 : Addr) : entryFrame m #[(.ref x0), (.int x1), (.ref x2)] 6 = mkF m 0 #[rv x0, iv x1, rv x2, .unset, .unset, .unset] [] := by first | (simp [entryFrame, mkF, argsToLocals, Value.category]; done) | rfl
def Q_mt_2m (Z : State) (at_ : Int32) (ob re : Addr) (RL : List Int32) (st_ sv_ : Addr) (c0 c1 cs : Int32) (fm : Value) (h0 : Heap) (n0 : Nat) (v : Option Value) (h : Heap) (L : List Loc) : Prop := v = some (.int (-1 : Int32)) ∧ Fr n0 L ∧ h = h0
set_option maxRecDepth 65536 in
set_option maxHeartbeats 40000000 in
theorem mt_2m (l : Launch) (Z : State) (a0 : Array Value) (hw : ∀ d ∈ tables_1, d.before a0 Z = true) (ws : List Jvm.Cond) (at_ : Int32) (ob re : Addr) (RL : List Int32) (st_ sv_ : Addr) (c0 c1 cs : Int32) (fm : Value) (h0 : Heap) (n0 : Nat) (Z0 : n0 ≤ h0.size) (pf_O : Old Z n0 h0) (pS_COMPAC : Sta Z Z.heap "java/lang/String" "COMPACT_STRINGS" "Z" (.int cs)) (hcs : ¬ (cs = 0)) (pS_SIOOBE : Sta Z Z.heap "jdk/internal/util/Preconditions" "SIOOBE_FORMATTER" "Ljava/util/function/BiFunction;" fm) (rfm : fm.isRef = true) (pf_E_st_ : Exa Z h0 st_ "java/lang/String") (pf_F_st__value : Fld Z h0 st_ "java/lang/String" "value" "[B" (.ref sv_)) (pf_F_st__coder : Fld Z h0 st_ "java/lang/String" "coder" "B" (.int 0)) (pf_A_sv_ : Av Z h0 sv_ .byte (2 : Int32) (own_vs [c0, c1]) (.int 0)) (hrA : ∀ c ∈ ([c0, c1] : List Int32), ¬ c < 0 ∧ ¬ (255 : Int32) < c) (pf_E_ob : Exa Z h0 ob "com/example/arbiter/arbiter/OrdinalTable") (pf_F_ob_records : Fld Z h0 ob "com/example/arbiter/arbiter/OrdinalTable" "records" "[I" (.ref re)) (pf_A_re : Av Z h0 re .int 64 (own_cv RL) (.int 0)) (hRL : RL.length = 64) (hat : 0 ≤ at_.toInt ∧ at_.toInt < 62) (hg0 : (own_g RL at_) = 1) :
    MetFree l MN43 (head1 (Jvm.Cond.code MN43 prog_25_method_28_code 6 (some .int) :: ws) (Room.mk 2 0 0 25)) (fun a U => a = #[(.ref ob), (.int at_), (.ref st_)] ∧ Z.Warmed39 U.vm ∧ U.heap = h0) (fun _ _ _ _ _ => True) (fun _ U o U' => ∃ v L, o = .returned v ∧ Q_mt_2m Z at_ ob re RL st_ sv_ c0 c1 cs fm h0 n0 v U'.heap L ∧ FrameEnd U o U' L (Room.mk 2 0 0 25).cells (Room.mk 2 0 0 25).slots) := by
  refine MetFree.of_bodySF (plainFor_of_name pn_com_example_arbiter_arbiter_OrdinalTable) hisR ?_
  intro p e s m args below meth c s₁ Bd hml0 hP hK
  obtain ⟨rfl, hZ, hh⟩ := hP
  have hx := Bd.exec
  have hby := Bd.bytes
  have hml : c.maxLocals = 6 := hml0
  have hown : s.vm.findClass "com/example/arbiter/arbiter/OrdinalTable" = some m.cls := findClass_of_methodNamed Bd.named
  have hnm := (name_of_methodNamed Bd.named Bd.method).1
  have X0 : Stand p l e (Room.mk 2 0 0 25) s m #[(.ref ob), (.int at_), (.ref st_)] below meth c s₁ [] 0 0 := Stand.of_body Bd
  have e0 : s₁.heap = h0 := by rw [← hh, Bd.state]; rfl
  have N0 := Fr.nil n0
  have pre0 : ∀ t, Steps p.tables e below (s₁.setTop (mkF m 0 #[rv ob, iv at_, rv st_, .unset, .unset, .unset] [])) t → Steps p.tables e below (s₁.setTop (entryFrame m #[(.ref ob), (.int at_), (.ref st_)] 6)) t := fun t k => castTop (ef_mt_2m m ob at_ st_) k
  have wo17 := hw _ (own_m 17 rfl)
  have wo50 := hw _ (own_m 50 rfl)
  have wo51 := hw _ (own_m 51 rfl)
  have wo52 := hw _ (own_m 52 rfl)
  have wo134 := hw _ (own_m 134 rfl)
  have wo161 := hw _ (own_m 161 rfl)
  obtain ⟨kv2, hv3⟩ := id pf_A_sv_
  have hws1 : ∀ d ∈ StrChars.Road.wordsLen, d.before a0 Z = true := fun d hd => hw d ((by decide +kernel : ∀ d ∈ StrChars.Road.wordsLen, d ∈ tables_1) d hd)
  obtain ⟨cq1, kq1, q1a, q1b, q1c⟩ := isOf hZ e0 pf_E_st_
  obtain ⟨_, _, ⟨T1, L1, k1, n1⟩, -, X1, ⟨Lc1, hQ1, l1, y1, z1⟩, st1⟩ := X0.virtualBack hx (y := MN10) (z := MN10) hown (mvT hZ wo161) (mvT hZ wo50) (notFace_of_selects (args := #[]) (mvT hZ wo52)) (mvT hZ wo52) (mvT hZ wo51) (by decide) (StrChars.Road.lenW (W := 0) hZ hws1 (kI := 4) wo17 pf_E_st_ pf_F_st__value pf_F_st__coder hv3 (own_cod (by rfl) hrA) (own_wid hrA) (pS_COMPAC.ext pf_O.2) hcs (Nat.le_of_ble_eq_true rfl) (by decide) (by decide)) q1a q1c (g := (mkF m 1 #[rv ob, iv at_, rv st_, .unset, .unset, .unset] [(.ref st_)])) rfl (by rw [hml]; rfl) (Steps.refl _) (argsL := []) (rest := []) (lenOf pd_1 rfl) rfl (by show 2 * 0 + _ ≤ _; exact Nat.le_of_eq rfl) (hb hby d43_1) (fun _ _ => ⟨rfl, e0, (by decide : 0 + 0 ≤ _), (by decide : 0 + 0 ≤ _)⟩)
  dsimp only [Pt.U, Pt.locs, Pt.cells, Pt.slots] at X1 l1 y1 z1 st1 hQ1
  rw [l1, y1, z1] at X1
  obtain ⟨rfl, hl1, K1q⟩ := hQ1
  rw [hl1, List.append_nil] at X1
  obtain ⟨T4, X4, e4, st4⟩ := getF X1 hx hZ hown (host := "") (Or.inl wo134) Via.refl K1q pf_F_ob_records (g := (mkF m 6 #[rv ob, iv at_, rv st_, iv 2, .unset, .unset] [(.ref ob)])) rfl rfl (hb hby d43_6)
  obtain ⟨kk5, cl5, Ar5, qq5, Sz5, Nn5, Hs5, Gf5⟩ := id pf_A_re
  have hin6 : ¬ (at_ < 0 ∨ cl5.slots.size ≤ (at_).toNatClampNeg) := inb_of Sz5 (own_j hat).1
  have hat7 : cl5.slots[(at_).toNatClampNeg]? = some (.int (own_g RL at_)) := Has.at Hs5 hin6 (own_cvg _ _)
  have hc8 : ¬ ((own_g RL at_) = 2) := by rw [hg0]; decide
  obtain ⟨fs, hr, hrun, hended, hW, hsame⟩ := X4.leave (v := some (.int (-1 : Int32))) (fun h => by rw [Bd.returns] at h; cases h)
  refine ⟨_, _, pre0 _ ?_, hrun, hended, _, _, rfl, ?_, ⟨_, rfl⟩, hW, hsame.mono (by decide) (by decide)⟩
  · show Steps _ _ _ (State.setTop _ (mkF m 0 #[rv ob, iv at_, rv st_, .unset, .unset, .unset] [])) _
    refine XS.aloadN X0.here hx rfl (hb hby d43_0) rfl rfl ?_
    show Steps _ _ _ (State.setTop _ (mkF m 1 #[rv ob, iv at_, rv st_, .unset, .unset, .unset] [(.ref st_)])) _
    refine st1.trans ?_
    refine XS.istoreN X1.here hx rfl (hb hby d43_4) rfl (l' := #[rv ob, iv at_, rv st_, iv 2, .unset, .unset]) rfl ?_
    refine XS.aloadN X1.here hx rfl (hb hby d43_5) rfl rfl ?_
    refine st4 _ ?_
    refine XS.iloadN X4.here hx rfl (hb hby d43_9) rfl ?_
    refine X4.iaload hx (j := at_) (v := (.int (own_g RL at_))) (by rw [e4]; exact Ar5.1) (State.isArrayOf_alike hZ.alike Ar5.2.1) Ar5.2.2 hin6 hat7 (g := (mkF m 10 #[rv ob, iv at_, rv st_, iv 2, .unset, .unset] [(.int at_), (.ref re)])) rfl rfl (hb hby d43_10) _ ?_
    refine XS.iloadN X4.here hx rfl (hb hby d43_11) rfl ?_
    refine XS.icmpNo X4.here hx rfl (hb hby d43_12) rfl (feq hc8).1 ?_
    refine XS.iconst X4.here hx rfl (hb hby d43_15) ?_
    show Steps _ _ _ (State.setTop _ (mkF m 16 #[rv ob, iv at_, rv st_, iv 2, .unset, .unset] [(.int (-1 : Int32))])) _
    exact retI X4 hx Bd.returns (hb hby d43_16) hr
  · show Q_mt_2m Z _ _ _ _ _ _ _ _ _ _ h0 n0 _ T4.heap _
    rw [e4]
    exact ⟨rfl, N0, rfl⟩
theorem d42_0 : decode prog_25_method_27_code 0 = .ok (.aload_n 0, 1) := by decide +kernel
theorem d42_1 : decode prog_25_method_27_code 1 = .ok (.iload_n 1, 1) := by decide +kernel
theorem d42_2 : decode prog_25_method_27_code 2 = .ok (.iconst 1, 1) := by decide +kernel
theorem d42_3 : decode prog_25_method_27_code 3 = .ok (.iadd, 1) := by decide +kernel
theorem d42_4 : decode prog_25_method_27_code 4 = .ok (.aload_n 0, 1) := by decide +kernel
theorem d42_5 : decode prog_25_method_27_code 5 = .ok (.getfield 30, 3) := by decide +kernel
theorem d42_8 : decode prog_25_method_27_code 8 = .ok (.iload_n 1, 1) := by decide +kernel
theorem d42_9 : decode prog_25_method_27_code 9 = .ok (.iaload, 1) := by decide +kernel
theorem d42_10 : decode prog_25_method_27_code 10 = .ok (.iadd, 1) := by decide +kernel
theorem d42_11 : decode prog_25_method_27_code 11 = .ok (.aload_n 2, 1) := by decide +kernel
theorem d42_12 : decode prog_25_method_27_code 12 = .ok (.invokevirtual 153, 3) := by decide +kernel
theorem d42_15 : decode prog_25_method_27_code 15 = .ok (.istore 4, 2) := by decide +kernel
theorem d42_17 : decode prog_25_method_27_code 17 = .ok (.iload 4, 2) := by decide +kernel
theorem d42_19 : decode prog_25_method_27_code 19 = .ok (.ifCond .ge 9, 3) := by decide +kernel
theorem d42_28 : decode prog_25_method_27_code 28 = .ok (.aload_n 3, 1) := by decide +kernel
theorem d42_29 : decode prog_25_method_27_code 29 = .ok (.ifnonnull 23, 3) := by decide +kernel
theorem d42_32 : decode prog_25_method_27_code 32 = .ok (.aload_n 0, 1) := by decide +kernel
theorem d42_33 : decode prog_25_method_27_code 33 = .ok (.getfield 30, 3) := by decide +kernel
theorem d42_36 : decode prog_25_method_27_code 36 = .ok (.iload 4, 2) := by decide +kernel
theorem d42_38 : decode prog_25_method_27_code 38 = .ok (.iaload, 1) := by decide +kernel
theorem d42_39 : decode prog_25_method_27_code 39 = .ok (.ifCond .ne 7, 3) := by decide +kernel
theorem d42_42 : decode prog_25_method_27_code 42 = .ok (.iconst 1, 1) := by decide +kernel
theorem d42_43 : decode prog_25_method_27_code 43 = .ok (.goto 4, 3) := by decide +kernel
theorem d42_47 : decode prog_25_method_27_code 47 = .ok (.istore 5, 2) := by decide +kernel
theorem d42_49 : decode prog_25_method_27_code 49 = .ok (.goto 20, 3) := by decide +kernel
theorem d42_69 : decode prog_25_method_27_code 69 = .ok (.iload 5, 2) := by decide +kernel
theorem d42_71 : decode prog_25_method_27_code 71 = .ok (.ireturn, 1) := by decide +kernel
theorem ef_mh_1 (m : MethodId) (x0 : Addr) (x1 : Int32) (x2 : Addr) : entryFrame m #[(.ref x0), (.int x1), (.ref x2), .null] 6 = mkF m 0 #[rv x0, iv x1, rv x2, .val .null, .unset, .unset] [] := by first | (simp [entryFrame, mkF, argsToLocals, Value.category]; done) | rfl
def Q_mh_1 (Z : State) (ob re : Addr) (RL : List Int32) (r_ n_ : Int32) (OL : List Int32) (st_ sv_ : Addr) (c0 cs : Int32) (fm : Value) (h0 : Heap) (n0 : Nat) (v : Option Value) (h : Heap) (L : List Loc) : Prop := v = some (.int 1) ∧ Fr n0 L ∧ h = h0
set_option maxRecDepth 65536 in
set_option maxHeartbeats 40000000 in
theorem mh_1 (l : Launch) (Z : State) (a0 : Array Value) (hw : ∀ d ∈ tables_1, d.before a0 Z = true) (ws : List Jvm.Cond) (ob re : Addr) (RL : List Int32) (r_ n_ : Int32) (OL : List Int32) (st_ sv_ : Addr) (c0 cs : Int32) (fm : Value) (h0 : Heap) (n0 : Nat) (Z0 : n0 ≤ h0.size) (pf_O : Old Z n0 h0) (pS_COMPAC : Sta Z Z.heap "java/lang/String" "COMPACT_STRINGS" "Z" (.int cs)) (hcs : ¬ (cs = 0)) (pS_SIOOBE : Sta Z Z.heap "jdk/internal/util/Preconditions" "SIOOBE_FORMATTER" "Ljava/util/function/BiFunction;" fm) (rfm : fm.isRef = true) (pf_E_st_ : Exa Z h0 st_ "java/lang/String") (pf_F_st__value : Fld Z h0 st_ "java/lang/String" "value" "[B" (.ref sv_)) (pf_F_st__coder : Fld Z h0 st_ "java/lang/String" "coder" "B" (.int 0)) (pf_A_sv_ : Av Z h0 sv_ .byte (1 : Int32) (own_vs [c0]) (.int 0)) (hrA : ∀ c ∈ ([c0] : List Int32), ¬ c < 0 ∧ ¬ (255 : Int32) < c) (pf_E_ob : Exa Z h0 ob "com/example/arbiter/arbiter/OrdinalTable") (pf_F_ob_records : Fld Z h0 ob "com/example/arbiter/arbiter/OrdinalTable" "records" "[I" (.ref re)) (pf_A_re : Av Z h0 re .int 64 (own_cv RL) (.int 0)) (hRL : RL.length = 64) (hr : 0 < r_.toInt ∧ r_.toInt < 20) (hn : 0 < n_.toInt ∧ n_.toInt < 5) (hR : own_R RL r_ n_ OL (1 : Int32) c0) :
    MetFree l MN42 (head1 (Jvm.Cond.code MN42 prog_25_method_27_code 6 (some .boolean) :: ws) (Room.mk 6 0 0 85)) (fun a U => a = #[(.ref ob), (.int r_), (.ref st_), .null] ∧ Z.Warmed39 U.vm ∧ U.heap = h0) (fun _ _ _ _ _ => True) (fun _ U o U' => ∃ v L, o = .returned v ∧ Q_mh_1 Z ob re RL r_ n_ OL st_ sv_ c0 cs fm h0 n0 v U'.heap L ∧ FrameEnd U o U' L (Room.mk 6 0 0 85).cells (Room.mk 6 0 0 85).slots) := by
  refine MetFree.of_bodySF (plainFor_of_name pn_com_example_arbiter_arbiter_OrdinalTable) hisR ?_
  intro p e s m args below meth c s₁ Bd hml0 hP hK
  obtain ⟨rfl, hZ, hh⟩ := hP
  have hx := Bd.exec
  have hby := Bd.bytes
  have hml : c.maxLocals = 6 := hml0
  have hown : s.vm.findClass "com/example/arbiter/arbiter/OrdinalTable" = some m.cls := findClass_of_methodNamed Bd.named
  have hnm := (name_of_methodNamed Bd.named Bd.method).1
  have X0 : Stand p l e (Room.mk 6 0 0 85) s m #[(.ref ob), (.int r_), (.ref st_), .null] below meth c s₁ [] 0 0 := Stand.of_body Bd
  have e0 : s₁.heap = h0 := by rw [← hh, Bd.state]; rfl
  have N0 := Fr.nil n0
  have pre0 : ∀ t, Steps p.tables e below (s₁.setTop (mkF m 0 #[rv ob, iv r_, rv st_, .val .null, .unset, .unset] [])) t → Steps p.tables e below (s₁.setTop (entryFrame m #[(.ref ob), (.int r_), (.ref st_), .null] 6)) t := fun t k => castTop (ef_mh_1 m ob r_ st_) k
  have wo122 := hw _ (own_m 122 rfl)
  have wo123 := hw _ (own_m 123 rfl)
  have wo134 := hw _ (own_m 134 rfl)
  have wo212 := hw _ (own_m 212 rfl)
  have wo213 := hw _ (own_m 213 rfl)
  have wo214 := hw _ (own_m 214 rfl)
  have wo215 := hw _ (own_m 215 rfl)
  obtain ⟨T1, X1, e1, st1⟩ := getF X0 hx hZ hown (host := "") (Or.inl wo134) Via.refl e0 pf_F_ob_records (g := (mkF m 5 #[rv ob, iv r_, rv st_, .val .null, .unset, .unset] [(.ref ob), (.int (r_ + 1)), (.ref ob)])) rfl rfl (hb hby d42_5)
  obtain ⟨kk2, cl2, Ar2, qq2, Sz2, Nn2, Hs2, Gf2⟩ := id pf_A_re
  have hin3 : ¬ (r_ < 0 ∨ cl2.slots.size ≤ (r_).toNatClampNeg) := inb_of Sz2 (own_ix hr hn).1
  have hat4 : cl2.slots[(r_).toNatClampNeg]? = some (.int (own_g RL r_)) := Has.at Hs2 hin3 (own_cvg _ _)
  have q5 : (own_g RL r_) = n_ := hR.1
  obtain ⟨cq6, q6, q6'⟩ := pf_E_ob.cell
  obtain ⟨_, _, ⟨T6, L6, k6, n6⟩, -, X6, ⟨Lc6, hQ6, l6, y6, z6⟩, st6⟩ := X1.privateBack hx (y := MN43) hown (mvT hZ wo212) (mvT hZ wo213) (own_sel (Cond.privateMethod_at (mvP hZ wo214 (args := #[]))) (mvT hZ wo213) (mvT hZ wo122 (args := #[])) (by decide)) (Cond.privateMethod_at (mvP hZ wo214 (args := #[]))) (mvT hZ wo215) (by decide) (backOf (W := 0) (mt_1 l Z a0 hw [] ((r_ + 1) + n_) ob re RL st_ sv_ c0 cs fm h0 n0 Z0 pf_O pS_COMPAC hcs pS_SIOOBE rfm pf_E_st_ pf_F_st__value pf_F_st__coder pf_A_sv_ hrA pf_E_ob pf_F_ob_records pf_A_re hRL ((own_ix hr hn).2.1 : 0 ≤ ((r_ + 1) + n_).toInt ∧ ((r_ + 1) + n_).toInt < 62) hR.2.2.1 hR.2.2.2.1) hZ wo215 wo123 (by decide) (by decide)) (g := (mkF m 12 #[rv ob, iv r_, rv st_, .val .null, .unset, .unset] [(.ref st_), (.int ((r_ + 1) + n_)), (.ref ob)])) rfl (by rw [hml]; rfl) (Steps.refl _) (a := ob) (by rw [e1]; exact q6) q6' (argsL := [(.int ((r_ + 1) + n_)), (.ref st_)]) (rest := []) (lenOf pd_18 rfl) rfl (by show 2 * 0 + _ ≤ _; exact Nat.le_of_eq rfl) (hb hby d42_12) (fun _ _ => ⟨rfl, e1, (by decide : 0 + 0 ≤ _), (by decide : 0 + 0 ≤ _)⟩)
  dsimp only [Pt.U, Pt.locs, Pt.cells, Pt.slots] at X6 l6 y6 z6 st6 hQ6
  rw [l6, y6, z6] at X6
  obtain ⟨rfl, N6q, K6q⟩ := hQ6
  have N7 := Fr.app N0 N6q
  have hc8 : ¬ (((((r_ + 1) + n_) + 1) + 1) < 0) := (own_ix hr hn).2.2.2.1
  obtain ⟨T9, X9, e9, st9⟩ := getF X6 hx hZ hown (host := "") (Or.inl wo134) Via.refl K6q pf_F_ob_records (g := (mkF m 33 #[rv ob, iv r_, rv st_, .val .null, iv ((((r_ + 1) + n_) + 1) + 1), .unset] [(.ref ob)])) rfl rfl (hb hby d42_33)
  obtain ⟨kk10, cl10, Ar10, qq10, Sz10, Nn10, Hs10, Gf10⟩ := id pf_A_re
  have hin11 : ¬ (((((r_ + 1) + n_) + 1) + 1) < 0 ∨ cl10.slots.size ≤ (((((r_ + 1) + n_) + 1) + 1)).toNatClampNeg) := inb_of Sz10 (own_ix hr hn).2.2.2
  have hat12 : cl10.slots[(((((r_ + 1) + n_) + 1) + 1)).toNatClampNeg]? = some (.int (own_g RL ((((r_ + 1) + n_) + 1) + 1))) := Has.at Hs10 hin11 (own_cvg _ _)
  have hc13 : (own_g RL ((((r_ + 1) + n_) + 1) + 1)) = 0 := hR.2.2.2.2
  obtain ⟨fs, hr, hrun, hended, hW, hsame⟩ := X9.leave (v := some (.int 1)) (fun h => by rw [Bd.returns] at h; cases h)
  refine ⟨_, _, pre0 _ ?_, hrun, hended, _, _, rfl, ?_, ⟨_, rfl⟩, hW, hsame.mono (by decide) (by decide)⟩
  · show Steps _ _ _ (State.setTop _ (mkF m 0 #[rv ob, iv r_, rv st_, .val .null, .unset, .unset] [])) _
    refine XS.aloadN X0.here hx rfl (hb hby d42_0) rfl rfl ?_
    show Steps _ _ _ (State.setTop _ (mkF m 1 #[rv ob, iv r_, rv st_, .val .null, .unset, .unset] [(.ref ob)])) _
    refine XS.iloadN X0.here hx rfl (hb hby d42_1) rfl ?_
    refine XS.iconst X0.here hx rfl (hb hby d42_2) ?_
    refine XS.iadd X0.here hx rfl (hb hby d42_3) rfl ?_
    refine XS.aloadN X0.here hx rfl (hb hby d42_4) rfl rfl ?_
    refine st1 _ ?_
    refine XS.iloadN X1.here hx rfl (hb hby d42_8) rfl ?_
    refine X1.iaload hx (j := r_) (v := (.int (own_g RL r_))) (by rw [e1]; exact Ar2.1) (State.isArrayOf_alike hZ.alike Ar2.2.1) Ar2.2.2 hin3 hat4 (g := (mkF m 9 #[rv ob, iv r_, rv st_, .val .null, .unset, .unset] [(.int r_), (.ref re), (.int (r_ + 1)), (.ref ob)])) rfl rfl (hb hby d42_9) _ ?_
    show Steps _ _ _ (State.setTop _ (mkF m 10 #[rv ob, iv r_, rv st_, .val .null, .unset, .unset] [(.int (own_g RL r_)), (.int (r_ + 1)), (.ref ob)])) _
    rw [q5]
    show Steps _ _ _ (State.setTop _ (mkF m 10 #[rv ob, iv r_, rv st_, .val .null, .unset, .unset] [(.int n_), (.int (r_ + 1)), (.ref ob)])) _
    show Steps _ _ _ (State.setTop _ (mkF m 10 #[rv ob, iv r_, rv st_, .val .null, .unset, .unset] [(.int n_), (.int (r_ + 1)), (.ref ob)])) _
    refine XS.iadd X1.here hx rfl (hb hby d42_10) rfl ?_
    refine XS.aloadN X1.here hx rfl (hb hby d42_11) rfl rfl ?_
    refine st6.trans ?_
    refine XS.istore X6.here hx rfl (hb hby d42_15) rfl (l' := #[rv ob, iv r_, rv st_, .val .null, iv ((((r_ + 1) + n_) + 1) + 1), .unset]) rfl ?_
    refine XS.iload X6.here hx rfl (hb hby d42_17) rfl ?_
    refine XS.ifYes X6.here hx rfl (pc0 := 19) (pc' := 28) rfl (hb hby d42_19) rfl ((if0 _ _).trans (flt hc8).2.1) (by decide) (by decide) ?_
    refine XS.aloadN X6.here hx rfl (hb hby d42_28) rfl rfl ?_
    refine XS.ifnonnullNo X6.here hx rfl (hb hby d42_29) rfl ?_
    refine XS.aloadN X6.here hx rfl (hb hby d42_32) rfl rfl ?_
    show Steps _ _ _ (State.setTop _ (mkF m 33 #[rv ob, iv r_, rv st_, .val .null, iv ((((r_ + 1) + n_) + 1) + 1), .unset] [(.ref ob)])) _
    refine st9 _ ?_
    refine XS.iload X9.here hx rfl (hb hby d42_36) rfl ?_
    refine X9.iaload hx (j := ((((r_ + 1) + n_) + 1) + 1)) (v := (.int (own_g RL ((((r_ + 1) + n_) + 1) + 1)))) (by rw [e9]; exact Ar10.1) (State.isArrayOf_alike hZ.alike Ar10.2.1) Ar10.2.2 hin11 hat12 (g := (mkF m 38 #[rv ob, iv r_, rv st_, .val .null, iv ((((r_ + 1) + n_) + 1) + 1), .unset] [(.int ((((r_ + 1) + n_) + 1) + 1)), (.ref re)])) rfl rfl (hb hby d42_38) _ ?_
    refine XS.ifNo X9.here hx rfl (hb hby d42_39) rfl ((if0 _ _).trans (teq hc13).2) ?_
    refine XS.iconst X9.here hx rfl (hb hby d42_42) ?_
    refine XS.goto X9.here hx rfl (pc0 := 43) (pc' := 47) rfl (hb hby d42_43) (by decide) (by decide) ?_
    refine XS.istore X9.here hx rfl (hb hby d42_47) rfl (l' := #[rv ob, iv r_, rv st_, .val .null, iv ((((r_ + 1) + n_) + 1) + 1), iv 1]) rfl ?_
    refine XS.goto X9.here hx rfl (pc0 := 49) (pc' := 69) rfl (hb hby d42_49) (by decide) (by decide) ?_
    refine XS.iload X9.here hx rfl (hb hby d42_69) rfl ?_
    show Steps _ _ _ (State.setTop _ (mkF m 71 #[rv ob, iv r_, rv st_, .val .null, iv ((((r_ + 1) + n_) + 1) + 1), iv 1] [(.int 1)])) _
    exact retN X9 hx (t := .boolean) Bd.returns (by simp) (hb hby d42_71) hr
  · show Q_mh_1 Z _ _ _ _ _ _ _ _ _ _ _ h0 n0 _ T9.heap _
    rw [e9]
    exact ⟨rfl, N7, rfl⟩
theorem ef_mh_2 (m : MethodId) (x0 : Addr) (x1 : Int32) (x2 : Addr) : entryFrame m #[(.ref x0), (.int x1), (.ref x2), .null] 6 = mkF m 0 #[rv x0, iv x1, rv x2, .val .null, .unset, .unset] [] := by first | (simp [entryFrame, mkF, argsToLocals, Value.category]; done) | rfl
def Q_mh_2 (Z : State) (ob re : Addr) (RL : List Int32) (r_ n_ : Int32) (OL : List Int32) (st_ sv_ : Addr) (c0 c1 cs : Int32) (fm : Value) (h0 : Heap) (n0 : Nat) (v : Option Value) (h : Heap) (L : List Loc) : Prop := v = some (.int 1) ∧ Fr n0 L ∧ h = h0
set_option maxRecDepth 65536 in
set_option maxHeartbeats 40000000 in
theorem mh_2 (l : Launch) (Z : State) (a0 : Array Value) (hw : ∀ d ∈ tables_1, d.before a0 Z = true) (ws : List Jvm.Cond) (ob re : Addr) (RL : List Int32) (r_ n_ : Int32) (OL : List Int32) (st_ sv_ : Addr) (c0 c1 cs : Int32) (fm : Value) (h0 : Heap) (n0 : Nat) (Z0 : n0 ≤ h0.size) (pf_O : Old Z n0 h0) (pS_COMPAC : Sta Z Z.heap "java/lang/String" "COMPACT_STRINGS" "Z" (.int cs)) (hcs : ¬ (cs = 0)) (pS_SIOOBE : Sta Z Z.heap "jdk/internal/util/Preconditions" "SIOOBE_FORMATTER" "Ljava/util/function/BiFunction;" fm) (rfm : fm.isRef = true) (pf_E_st_ : Exa Z h0 st_ "java/lang/String") (pf_F_st__value : Fld Z h0 st_ "java/lang/String" "value" "[B" (.ref sv_)) (pf_F_st__coder : Fld Z h0 st_ "java/lang/String" "coder" "B" (.int 0)) (pf_A_sv_ : Av Z h0 sv_ .byte (2 : Int32) (own_vs [c0, c1]) (.int 0)) (hrA : ∀ c ∈ ([c0, c1] : List Int32), ¬ c < 0 ∧ ¬ (255 : Int32) < c) (pf_E_ob : Exa Z h0 ob "com/example/arbiter/arbiter/OrdinalTable") (pf_F_ob_records : Fld Z h0 ob "com/example/arbiter/arbiter/OrdinalTable" "records" "[I" (.ref re)) (pf_A_re : Av Z h0 re .int 64 (own_cv RL) (.int 0)) (hRL : RL.length = 64) (hr : 0 < r_.toInt ∧ r_.toInt < 20) (hn : 0 < n_.toInt ∧ n_.toInt < 5) (hR : own_R RL r_ n_ OL (2 : Int32) (c0 ||| (c1 <<< ((16 : Int32) &&& 31)))) :
    MetFree l MN42 (head1 (Jvm.Cond.code MN42 prog_25_method_27_code 6 (some .boolean) :: ws) (Room.mk 6 0 0 86)) (fun a U => a = #[(.ref ob), (.int r_), (.ref st_), .null] ∧ Z.Warmed39 U.vm ∧ U.heap = h0) (fun _ _ _ _ _ => True) (fun _ U o U' => ∃ v L, o = .returned v ∧ Q_mh_2 Z ob re RL r_ n_ OL st_ sv_ c0 c1 cs fm h0 n0 v U'.heap L ∧ FrameEnd U o U' L (Room.mk 6 0 0 86).cells (Room.mk 6 0 0 86).slots) := by
  refine MetFree.of_bodySF (plainFor_of_name pn_com_example_arbiter_arbiter_OrdinalTable) hisR ?_
  intro p e s m args below meth c s₁ Bd hml0 hP hK
  obtain ⟨rfl, hZ, hh⟩ := hP
  have hx := Bd.exec
  have hby := Bd.bytes
  have hml : c.maxLocals = 6 := hml0
  have hown : s.vm.findClass "com/example/arbiter/arbiter/OrdinalTable" = some m.cls := findClass_of_methodNamed Bd.named
  have hnm := (name_of_methodNamed Bd.named Bd.method).1
  have X0 : Stand p l e (Room.mk 6 0 0 86) s m #[(.ref ob), (.int r_), (.ref st_), .null] below meth c s₁ [] 0 0 := Stand.of_body Bd
  have e0 : s₁.heap = h0 := by rw [← hh, Bd.state]; rfl
  have N0 := Fr.nil n0
  have pre0 : ∀ t, Steps p.tables e below (s₁.setTop (mkF m 0 #[rv ob, iv r_, rv st_, .val .null, .unset, .unset] [])) t → Steps p.tables e below (s₁.setTop (entryFrame m #[(.ref ob), (.int r_), (.ref st_), .null] 6)) t := fun t k => castTop (ef_mh_2 m ob r_ st_) k
  have wo122 := hw _ (own_m 122 rfl)
  have wo123 := hw _ (own_m 123 rfl)
  have wo134 := hw _ (own_m 134 rfl)
  have wo212 := hw _ (own_m 212 rfl)
  have wo213 := hw _ (own_m 213 rfl)
  have wo214 := hw _ (own_m 214 rfl)
  have wo215 := hw _ (own_m 215 rfl)
  obtain ⟨T1, X1, e1, st1⟩ := getF X0 hx hZ hown (host := "") (Or.inl wo134) Via.refl e0 pf_F_ob_records (g := (mkF m 5 #[rv ob, iv r_, rv st_, .val .null, .unset, .unset] [(.ref ob), (.int (r_ + 1)), (.ref ob)])) rfl rfl (hb hby d42_5)
  obtain ⟨kk2, cl2, Ar2, qq2, Sz2, Nn2, Hs2, Gf2⟩ := id pf_A_re
  have hin3 : ¬ (r_ < 0 ∨ cl2.slots.size ≤ (r_).toNatClampNeg) := inb_of Sz2 (own_ix hr hn).1
  have hat4 : cl2.slots[(r_).toNatClampNeg]? = some (.int (own_g RL r_)) := Has.at Hs2 hin3 (own_cvg _ _)
  have q5 : (own_g RL r_) = n_ := hR.1
  obtain ⟨cq6, q6, q6'⟩ := pf_E_ob.cell
  obtain ⟨_, _, ⟨T6, L6, k6, n6⟩, -, X6, ⟨Lc6, hQ6, l6, y6, z6⟩, st6⟩ := X1.privateBack hx (y := MN43) hown (mvT hZ wo212) (mvT hZ wo213) (own_sel (Cond.privateMethod_at (mvP hZ wo214 (args := #[]))) (mvT hZ wo213) (mvT hZ wo122 (args := #[])) (by decide)) (Cond.privateMethod_at (mvP hZ wo214 (args := #[]))) (mvT hZ wo215) (by decide) (backOf (W := 0) (mt_2 l Z a0 hw [] ((r_ + 1) + n_) ob re RL st_ sv_ c0 c1 cs fm h0 n0 Z0 pf_O pS_COMPAC hcs pS_SIOOBE rfm pf_E_st_ pf_F_st__value pf_F_st__coder pf_A_sv_ hrA pf_E_ob pf_F_ob_records pf_A_re hRL ((own_ix hr hn).2.1 : 0 ≤ ((r_ + 1) + n_).toInt ∧ ((r_ + 1) + n_).toInt < 62) hR.2.2.1 hR.2.2.2.1) hZ wo215 wo123 (by decide) (by decide)) (g := (mkF m 12 #[rv ob, iv r_, rv st_, .val .null, .unset, .unset] [(.ref st_), (.int ((r_ + 1) + n_)), (.ref ob)])) rfl (by rw [hml]; rfl) (Steps.refl _) (a := ob) (by rw [e1]; exact q6) q6' (argsL := [(.int ((r_ + 1) + n_)), (.ref st_)]) (rest := []) (lenOf pd_18 rfl) rfl (by show 2 * 0 + _ ≤ _; exact Nat.le_of_eq rfl) (hb hby d42_12) (fun _ _ => ⟨rfl, e1, (by decide : 0 + 0 ≤ _), (by decide : 0 + 0 ≤ _)⟩)
  dsimp only [Pt.U, Pt.locs, Pt.cells, Pt.slots] at X6 l6 y6 z6 st6 hQ6
  rw [l6, y6, z6] at X6
  obtain ⟨rfl, N6q, K6q⟩ := hQ6
  have N7 := Fr.app N0 N6q
  have hc8 : ¬ (((((r_ + 1) + n_) + 1) + 1) < 0) := (own_ix hr hn).2.2.2.1
  obtain ⟨T9, X9, e9, st9⟩ := getF X6 hx hZ hown (host := "") (Or.inl wo134) Via.refl K6q pf_F_ob_records (g := (mkF m 33 #[rv ob, iv r_, rv st_, .val .null, iv ((((r_ + 1) + n_) + 1) + 1), .unset] [(.ref ob)])) rfl rfl (hb hby d42_33)
  obtain ⟨kk10, cl10, Ar10, qq10, Sz10, Nn10, Hs10, Gf10⟩ := id pf_A_re
  have hin11 : ¬ (((((r_ + 1) + n_) + 1) + 1) < 0 ∨ cl10.slots.size ≤ (((((r_ + 1) + n_) + 1) + 1)).toNatClampNeg) := inb_of Sz10 (own_ix hr hn).2.2.2
  have hat12 : cl10.slots[(((((r_ + 1) + n_) + 1) + 1)).toNatClampNeg]? = some (.int (own_g RL ((((r_ + 1) + n_) + 1) + 1))) := Has.at Hs10 hin11 (own_cvg _ _)
  have hc13 : (own_g RL ((((r_ + 1) + n_) + 1) + 1)) = 0 := hR.2.2.2.2
  obtain ⟨fs, hr, hrun, hended, hW, hsame⟩ := X9.leave (v := some (.int 1)) (fun h => by rw [Bd.returns] at h; cases h)
  refine ⟨_, _, pre0 _ ?_, hrun, hended, _, _, rfl, ?_, ⟨_, rfl⟩, hW, hsame.mono (by decide) (by decide)⟩
  · show Steps _ _ _ (State.setTop _ (mkF m 0 #[rv ob, iv r_, rv st_, .val .null, .unset, .unset] [])) _
    refine XS.aloadN X0.here hx rfl (hb hby d42_0) rfl rfl ?_
    show Steps _ _ _ (State.setTop _ (mkF m 1 #[rv ob, iv r_, rv st_, .val .null, .unset, .unset] [(.ref ob)])) _
    refine XS.iloadN X0.here hx rfl (hb hby d42_1) rfl ?_
    refine XS.iconst X0.here hx rfl (hb hby d42_2) ?_
    refine XS.iadd X0.here hx rfl (hb hby d42_3) rfl ?_
    refine XS.aloadN X0.here hx rfl (hb hby d42_4) rfl rfl ?_
    refine st1 _ ?_
    refine XS.iloadN X1.here hx rfl (hb hby d42_8) rfl ?_
    refine X1.iaload hx (j := r_) (v := (.int (own_g RL r_))) (by rw [e1]; exact Ar2.1) (State.isArrayOf_alike hZ.alike Ar2.2.1) Ar2.2.2 hin3 hat4 (g := (mkF m 9 #[rv ob, iv r_, rv st_, .val .null, .unset, .unset] [(.int r_), (.ref re), (.int (r_ + 1)), (.ref ob)])) rfl rfl (hb hby d42_9) _ ?_
    show Steps _ _ _ (State.setTop _ (mkF m 10 #[rv ob, iv r_, rv st_, .val .null, .unset, .unset] [(.int (own_g RL r_)), (.int (r_ + 1)), (.ref ob)])) _
    rw [q5]
    show Steps _ _ _ (State.setTop _ (mkF m 10 #[rv ob, iv r_, rv st_, .val .null, .unset, .unset] [(.int n_), (.int (r_ + 1)), (.ref ob)])) _
    show Steps _ _ _ (State.setTop _ (mkF m 10 #[rv ob, iv r_, rv st_, .val .null, .unset, .unset] [(.int n_), (.int (r_ + 1)), (.ref ob)])) _
    refine XS.iadd X1.here hx rfl (hb hby d42_10) rfl ?_
    refine XS.aloadN X1.here hx rfl (hb hby d42_11) rfl rfl ?_
    refine st6.trans ?_
    refine XS.istore X6.here hx rfl (hb hby d42_15) rfl (l' := #[rv ob, iv r_, rv st_, .val .null, iv ((((r_ + 1) + n_) + 1) + 1), .unset]) rfl ?_
    refine XS.iload X6.here hx rfl (hb hby d42_17) rfl ?_
    refine XS.ifYes X6.here hx rfl (pc0 := 19) (pc' := 28) rfl (hb hby d42_19) rfl ((if0 _ _).trans (flt hc8).2.1) (by decide) (by decide) ?_
    refine XS.aloadN X6.here hx rfl (hb hby d42_28) rfl rfl ?_
    refine XS.ifnonnullNo X6.here hx rfl (hb hby d42_29) rfl ?_
    refine XS.aloadN X6.here hx rfl (hb hby d42_32) rfl rfl ?_
    show Steps _ _ _ (State.setTop _ (mkF m 33 #[rv ob, iv r_, rv st_, .val .null, iv ((((r_ + 1) + n_) + 1) + 1), .unset] [(.ref ob)])) _
    refine st9 _ ?_
    refine XS.iload X9.here hx rfl (hb hby d42_36) rfl ?_
    refine X9.iaload hx (j := ((((r_ + 1) + n_) + 1) + 1)) (v := (.int (own_g RL ((((r_ + 1) + n_) + 1) + 1)))) (by rw [e9]; exact Ar10.1) (State.isArrayOf_alike hZ.alike Ar10.2.1) Ar10.2.2 hin11 hat12 (g := (mkF m 38 #[rv ob, iv r_, rv st_, .val .null, iv ((((r_ + 1) + n_) + 1) + 1), .unset] [(.int ((((r_ + 1) + n_) + 1) + 1)), (.ref re)])) rfl rfl (hb hby d42_38) _ ?_
    refine XS.ifNo X9.here hx rfl (hb hby d42_39) rfl ((if0 _ _).trans (teq hc13).2) ?_
    refine XS.iconst X9.here hx rfl (hb hby d42_42) ?_
    refine XS.goto X9.here hx rfl (pc0 := 43) (pc' := 47) rfl (hb hby d42_43) (by decide) (by decide) ?_
    refine XS.istore X9.here hx rfl (hb hby d42_47) rfl (l' := #[rv ob, iv r_, rv st_, .val .null, iv ((((r_ + 1) + n_) + 1) + 1), iv 1]) rfl ?_
    refine XS.goto X9.here hx rfl (pc0 := 49) (pc' := 69) rfl (hb hby d42_49) (by decide) (by decide) ?_
    refine XS.iload X9.here hx rfl (hb hby d42_69) rfl ?_
    show Steps _ _ _ (State.setTop _ (mkF m 71 #[rv ob, iv r_, rv st_, .val .null, iv ((((r_ + 1) + n_) + 1) + 1), iv 1] [(.int 1)])) _
    exact retN X9 hx (t := .boolean) Bd.returns (by simp) (hb hby d42_71) hr
  · show Q_mh_2 Z _ _ _ _ _ _ _ _ _ _ _ _ h0 n0 _ T9.heap _
    rw [e9]
    exact ⟨rfl, N7, rfl⟩
theorem d42_22 : decode prog_25_method_27_code 22 = .ok (.iconst 0, 1) := by decide +kernel
theorem d42_23 : decode prog_25_method_27_code 23 = .ok (.istore 5, 2) := by decide +kernel
theorem d42_25 : decode prog_25_method_27_code 25 = .ok (.goto 44, 3) := by decide +kernel
theorem ef_mm_2 (m : MethodId) (x0 : Addr) (x1 : Int32) (x2 : Addr) : entryFrame m #[(.ref x0), (.int x1), (.ref x2), .null] 6 = mkF m 0 #[rv x0, iv x1, rv x2, .val .null, .unset, .unset] [] := by first | (simp [entryFrame, mkF, argsToLocals, Value.category]; done) | rfl
def Q_mm_2 (Z : State) (ob re : Addr) (RL : List Int32) (r_ n_ : Int32) (OL : List Int32) (wd_ : Int32) (st_ sv_ : Addr) (c0 c1 cs : Int32) (fm : Value) (h0 : Heap) (n0 : Nat) (v : Option Value) (h : Heap) (L : List Loc) : Prop := v = some (.int 0) ∧ Fr n0 L ∧ h = h0
set_option maxRecDepth 65536 in
set_option maxHeartbeats 40000000 in
theorem mm_2 (l : Launch) (Z : State) (a0 : Array Value) (hw : ∀ d ∈ tables_1, d.before a0 Z = true) (ws : List Jvm.Cond) (ob re : Addr) (RL : List Int32) (r_ n_ : Int32) (OL : List Int32) (wd_ : Int32) (st_ sv_ : Addr) (c0 c1 cs : Int32) (fm : Value) (h0 : Heap) (n0 : Nat) (Z0 : n0 ≤ h0.size) (pf_O : Old Z n0 h0) (pS_COMPAC : Sta Z Z.heap "java/lang/String" "COMPACT_STRINGS" "Z" (.int cs)) (hcs : ¬ (cs = 0)) (pS_SIOOBE : Sta Z Z.heap "jdk/internal/util/Preconditions" "SIOOBE_FORMATTER" "Ljava/util/function/BiFunction;" fm) (rfm : fm.isRef = true) (pf_E_st_ : Exa Z h0 st_ "java/lang/String") (pf_F_st__value : Fld Z h0 st_ "java/lang/String" "value" "[B" (.ref sv_)) (pf_F_st__coder : Fld Z h0 st_ "java/lang/String" "coder" "B" (.int 0)) (pf_A_sv_ : Av Z h0 sv_ .byte (2 : Int32) (own_vs [c0, c1]) (.int 0)) (hrA : ∀ c ∈ ([c0, c1] : List Int32), ¬ c < 0 ∧ ¬ (255 : Int32) < c) (pf_E_ob : Exa Z h0 ob "com/example/arbiter/arbiter/OrdinalTable") (pf_F_ob_records : Fld Z h0 ob "com/example/arbiter/arbiter/OrdinalTable" "records" "[I" (.ref re)) (pf_A_re : Av Z h0 re .int 64 (own_cv RL) (.int 0)) (hRL : RL.length = 64) (hr : 0 < r_.toInt ∧ r_.toInt < 20) (hn : 0 < n_.toInt ∧ n_.toInt < 5) (hR : own_R RL r_ n_ OL (1 : Int32) wd_) :
    MetFree l MN42 (head1 (Jvm.Cond.code MN42 prog_25_method_27_code 6 (some .boolean) :: ws) (Room.mk 3 0 0 42)) (fun a U => a = #[(.ref ob), (.int r_), (.ref st_), .null] ∧ Z.Warmed39 U.vm ∧ U.heap = h0) (fun _ _ _ _ _ => True) (fun _ U o U' => ∃ v L, o = .returned v ∧ Q_mm_2 Z ob re RL r_ n_ OL wd_ st_ sv_ c0 c1 cs fm h0 n0 v U'.heap L ∧ FrameEnd U o U' L (Room.mk 3 0 0 42).cells (Room.mk 3 0 0 42).slots) := by
  refine MetFree.of_bodySF (plainFor_of_name pn_com_example_arbiter_arbiter_OrdinalTable) hisR ?_
  intro p e s m args below meth c s₁ Bd hml0 hP hK
  obtain ⟨rfl, hZ, hh⟩ := hP
  have hx := Bd.exec
  have hby := Bd.bytes
  have hml : c.maxLocals = 6 := hml0
  have hown : s.vm.findClass "com/example/arbiter/arbiter/OrdinalTable" = some m.cls := findClass_of_methodNamed Bd.named
  have hnm := (name_of_methodNamed Bd.named Bd.method).1
  have X0 : Stand p l e (Room.mk 3 0 0 42) s m #[(.ref ob), (.int r_), (.ref st_), .null] below meth c s₁ [] 0 0 := Stand.of_body Bd
  have e0 : s₁.heap = h0 := by rw [← hh, Bd.state]; rfl
  have N0 := Fr.nil n0
  have pre0 : ∀ t, Steps p.tables e below (s₁.setTop (mkF m 0 #[rv ob, iv r_, rv st_, .val .null, .unset, .unset] [])) t → Steps p.tables e below (s₁.setTop (entryFrame m #[(.ref ob), (.int r_), (.ref st_), .null] 6)) t := fun t k => castTop (ef_mm_2 m ob r_ st_) k
  have wo122 := hw _ (own_m 122 rfl)
  have wo123 := hw _ (own_m 123 rfl)
  have wo134 := hw _ (own_m 134 rfl)
  have wo212 := hw _ (own_m 212 rfl)
  have wo213 := hw _ (own_m 213 rfl)
  have wo214 := hw _ (own_m 214 rfl)
  have wo215 := hw _ (own_m 215 rfl)
  obtain ⟨T1, X1, e1, st1⟩ := getF X0 hx hZ hown (host := "") (Or.inl wo134) Via.refl e0 pf_F_ob_records (g := (mkF m 5 #[rv ob, iv r_, rv st_, .val .null, .unset, .unset] [(.ref ob), (.int (r_ + 1)), (.ref ob)])) rfl rfl (hb hby d42_5)
  obtain ⟨kk2, cl2, Ar2, qq2, Sz2, Nn2, Hs2, Gf2⟩ := id pf_A_re
  have hin3 : ¬ (r_ < 0 ∨ cl2.slots.size ≤ (r_).toNatClampNeg) := inb_of Sz2 (own_ix hr hn).1
  have hat4 : cl2.slots[(r_).toNatClampNeg]? = some (.int (own_g RL r_)) := Has.at Hs2 hin3 (own_cvg _ _)
  have q5 : (own_g RL r_) = n_ := hR.1
  obtain ⟨cq6, q6, q6'⟩ := pf_E_ob.cell
  obtain ⟨_, _, ⟨T6, L6, k6, n6⟩, -, X6, ⟨Lc6, hQ6, l6, y6, z6⟩, st6⟩ := X1.privateBack hx (y := MN43) hown (mvT hZ wo212) (mvT hZ wo213) (own_sel (Cond.privateMethod_at (mvP hZ wo214 (args := #[]))) (mvT hZ wo213) (mvT hZ wo122 (args := #[])) (by decide)) (Cond.privateMethod_at (mvP hZ wo214 (args := #[]))) (mvT hZ wo215) (by decide) (backOf (W := 0) (mt_2m l Z a0 hw [] ((r_ + 1) + n_) ob re RL st_ sv_ c0 c1 cs fm h0 n0 Z0 pf_O pS_COMPAC hcs pS_SIOOBE rfm pf_E_st_ pf_F_st__value pf_F_st__coder pf_A_sv_ hrA pf_E_ob pf_F_ob_records pf_A_re hRL ((own_ix hr hn).2.1 : 0 ≤ ((r_ + 1) + n_).toInt ∧ ((r_ + 1) + n_).toInt < 62) hR.2.2.1) hZ wo215 wo123 (by decide) (by decide)) (g := (mkF m 12 #[rv ob, iv r_, rv st_, .val .null, .unset, .unset] [(.ref st_), (.int ((r_ + 1) + n_)), (.ref ob)])) rfl (by rw [hml]; rfl) (Steps.refl _) (a := ob) (by rw [e1]; exact q6) q6' (argsL := [(.int ((r_ + 1) + n_)), (.ref st_)]) (rest := []) (lenOf pd_18 rfl) rfl (by show 2 * 0 + _ ≤ _; exact Nat.le_of_eq rfl) (hb hby d42_12) (fun _ _ => ⟨rfl, e1, (by decide : 0 + 0 ≤ _), (by decide : 0 + 0 ≤ _)⟩)
  dsimp only [Pt.U, Pt.locs, Pt.cells, Pt.slots] at X6 l6 y6 z6 st6 hQ6
  rw [l6, y6, z6] at X6
  obtain ⟨rfl, N6q, K6q⟩ := hQ6
  have N7 := Fr.app N0 N6q
  obtain ⟨fs, hr, hrun, hended, hW, hsame⟩ := X6.leave (v := some (.int 0)) (fun h => by rw [Bd.returns] at h; cases h)
  refine ⟨_, _, pre0 _ ?_, hrun, hended, _, _, rfl, ?_, ⟨_, rfl⟩, hW, hsame.mono (by decide) (by decide)⟩
  · show Steps _ _ _ (State.setTop _ (mkF m 0 #[rv ob, iv r_, rv st_, .val .null, .unset, .unset] [])) _
    refine XS.aloadN X0.here hx rfl (hb hby d42_0) rfl rfl ?_
    show Steps _ _ _ (State.setTop _ (mkF m 1 #[rv ob, iv r_, rv st_, .val .null, .unset, .unset] [(.ref ob)])) _
    refine XS.iloadN X0.here hx rfl (hb hby d42_1) rfl ?_
    refine XS.iconst X0.here hx rfl (hb hby d42_2) ?_
    refine XS.iadd X0.here hx rfl (hb hby d42_3) rfl ?_
    refine XS.aloadN X0.here hx rfl (hb hby d42_4) rfl rfl ?_
    refine st1 _ ?_
    refine XS.iloadN X1.here hx rfl (hb hby d42_8) rfl ?_
    refine X1.iaload hx (j := r_) (v := (.int (own_g RL r_))) (by rw [e1]; exact Ar2.1) (State.isArrayOf_alike hZ.alike Ar2.2.1) Ar2.2.2 hin3 hat4 (g := (mkF m 9 #[rv ob, iv r_, rv st_, .val .null, .unset, .unset] [(.int r_), (.ref re), (.int (r_ + 1)), (.ref ob)])) rfl rfl (hb hby d42_9) _ ?_
    show Steps _ _ _ (State.setTop _ (mkF m 10 #[rv ob, iv r_, rv st_, .val .null, .unset, .unset] [(.int (own_g RL r_)), (.int (r_ + 1)), (.ref ob)])) _
    rw [q5]
    show Steps _ _ _ (State.setTop _ (mkF m 10 #[rv ob, iv r_, rv st_, .val .null, .unset, .unset] [(.int n_), (.int (r_ + 1)), (.ref ob)])) _
    show Steps _ _ _ (State.setTop _ (mkF m 10 #[rv ob, iv r_, rv st_, .val .null, .unset, .unset] [(.int n_), (.int (r_ + 1)), (.ref ob)])) _
    refine XS.iadd X1.here hx rfl (hb hby d42_10) rfl ?_
    refine XS.aloadN X1.here hx rfl (hb hby d42_11) rfl rfl ?_
    refine st6.trans ?_
    refine XS.istore X6.here hx rfl (hb hby d42_15) rfl (l' := #[rv ob, iv r_, rv st_, .val .null, iv (-1 : Int32), .unset]) rfl ?_
    refine XS.iload X6.here hx rfl (hb hby d42_17) rfl ?_
    refine XS.ifNo X6.here hx rfl (hb hby d42_19) rfl ((if0 _ _).trans (tlt (by decide : (-1 : Int32) < 0)).2.1) ?_
    refine XS.iconst X6.here hx rfl (hb hby d42_22) ?_
    refine XS.istore X6.here hx rfl (hb hby d42_23) rfl (l' := #[rv ob, iv r_, rv st_, .val .null, iv (-1 : Int32), iv 0]) rfl ?_
    refine XS.goto X6.here hx rfl (pc0 := 25) (pc' := 69) rfl (hb hby d42_25) (by decide) (by decide) ?_
    show Steps _ _ _ (State.setTop _ (mkF m 69 #[rv ob, iv r_, rv st_, .val .null, iv (-1 : Int32), iv 0] [])) _
    refine XS.iload X6.here hx rfl (hb hby d42_69) rfl ?_
    show Steps _ _ _ (State.setTop _ (mkF m 71 #[rv ob, iv r_, rv st_, .val .null, iv (-1 : Int32), iv 0] [(.int 0)])) _
    exact retN X6 hx (t := .boolean) Bd.returns (by simp) (hb hby d42_71) hr
  · show Q_mm_2 Z _ _ _ _ _ _ _ _ _ _ _ _ _ h0 n0 _ T6.heap _
    rw [K6q]
    exact ⟨rfl, N7, rfl⟩
theorem d35_0 : decode prog_25_method_22_code 0 = .ok (.aload_n 0, 1) := by decide +kernel
theorem d35_1 : decode prog_25_method_22_code 1 = .ok (.getfield 26, 3) := by decide +kernel
theorem d35_4 : decode prog_25_method_22_code 4 = .ok (.arraylength, 1) := by decide +kernel
theorem d35_5 : decode prog_25_method_22_code 5 = .ok (.iconst 1, 1) := by decide +kernel
theorem d35_6 : decode prog_25_method_22_code 6 = .ok (.isub, 1) := by decide +kernel
theorem d35_7 : decode prog_25_method_22_code 7 = .ok (.istore_n 2, 1) := by decide +kernel
theorem d35_8 : decode prog_25_method_22_code 8 = .ok (.iload_n 1, 1) := by decide +kernel
theorem d35_9 : decode prog_25_method_22_code 9 = .ok (.iload_n 2, 1) := by decide +kernel
theorem d35_10 : decode prog_25_method_22_code 10 = .ok (.iand, 1) := by decide +kernel
theorem d35_11 : decode prog_25_method_22_code 11 = .ok (.istore_n 3, 1) := by decide +kernel
theorem d35_12 : decode prog_25_method_22_code 12 = .ok (.aload_n 0, 1) := by decide +kernel
theorem d35_13 : decode prog_25_method_22_code 13 = .ok (.getfield 22, 3) := by decide +kernel
theorem d35_16 : decode prog_25_method_22_code 16 = .ok (.iconst 2, 1) := by decide +kernel
theorem d35_17 : decode prog_25_method_22_code 17 = .ok (.iload_n 3, 1) := by decide +kernel
theorem d35_18 : decode prog_25_method_22_code 18 = .ok (.imul, 1) := by decide +kernel
theorem d35_19 : decode prog_25_method_22_code 19 = .ok (.iconst 1, 1) := by decide +kernel
theorem d35_20 : decode prog_25_method_22_code 20 = .ok (.iadd, 1) := by decide +kernel
theorem d35_21 : decode prog_25_method_22_code 21 = .ok (.iaload, 1) := by decide +kernel
theorem d35_22 : decode prog_25_method_22_code 22 = .ok (.ifCond .eq 12, 3) := by decide +kernel
theorem d35_34 : decode prog_25_method_22_code 34 = .ok (.iload_n 3, 1) := by decide +kernel
theorem d35_35 : decode prog_25_method_22_code 35 = .ok (.ireturn, 1) := by decide +kernel
theorem ef_es_1 (m : MethodId) (x0 : Addr) (x1 : Int32) : entryFrame m #[(.ref x0), (.int x1)] 4 = mkF m 0 #[rv x0, iv x1, .unset, .unset] [] := by first | (simp [entryFrame, mkF, argsToLocals, Value.category]; done) | rfl
def Q_es_1 (Z : State) (ob sl va re : Addr) (SL RL : List Int32) (hq_ : Int32) (h0 : Heap) (n0 : Nat) (v : Option Value) (h : Heap) (L : List Loc) : Prop := v = some (.int (hq_ &&& 7)) ∧ Fr n0 L ∧ h = h0
set_option maxRecDepth 65536 in
set_option maxHeartbeats 40000000 in
theorem es_1 (l : Launch) (Z : State) (a0 : Array Value) (hw : ∀ d ∈ tables_1, d.before a0 Z = true) (ws : List Jvm.Cond) (ob sl va re : Addr) (SL RL : List Int32) (hq_ : Int32) (h0 : Heap) (n0 : Nat) (Z0 : n0 ≤ h0.size) (pf_E_ob : Exa Z h0 ob "com/example/arbiter/arbiter/OrdinalTable") (pf_F_ob_slots : Fld Z h0 ob "com/example/arbiter/arbiter/OrdinalTable" "slots" "[I" (.ref sl)) (pf_F_ob_values : Fld Z h0 ob "com/example/arbiter/arbiter/OrdinalTable" "values" "[Ljava/lang/Object;" (.ref va)) (pf_F_ob_records : Fld Z h0 ob "com/example/arbiter/arbiter/OrdinalTable" "records" "[I" (.ref re)) (pf_A_sl : Av Z h0 sl .int 16 (own_cv SL) (.int 0)) (pf_L_va : Al Z h0 va (.object "java/lang/Object") (8 : Int32)) (pf_A_re : Av Z h0 re .int 64 (own_cv RL) (.int 0)) (hT : own_T0 SL RL) :
    MetFree l MN35 (head1 (Jvm.Cond.code MN35 prog_25_method_22_code 4 (some .int) :: ws) (Room.mk 0 0 0 0)) (fun a U => a = #[(.ref ob), (.int hq_)] ∧ Z.Warmed39 U.vm ∧ U.heap = h0) (fun _ _ _ _ _ => True) (fun _ U o U' => ∃ v L, o = .returned v ∧ Q_es_1 Z ob sl va re SL RL hq_ h0 n0 v U'.heap L ∧ FrameEnd U o U' L (Room.mk 0 0 0 0).cells (Room.mk 0 0 0 0).slots) := by
  refine MetFree.of_bodySF (plainFor_of_name pn_com_example_arbiter_arbiter_OrdinalTable) hisR ?_
  intro p e s m args below meth c s₁ Bd hml0 hP hK
  obtain ⟨rfl, hZ, hh⟩ := hP
  have hx := Bd.exec
  have hby := Bd.bytes
  have hml : c.maxLocals = 4 := hml0
  have hown : s.vm.findClass "com/example/arbiter/arbiter/OrdinalTable" = some m.cls := findClass_of_methodNamed Bd.named
  have hnm := (name_of_methodNamed Bd.named Bd.method).1
  have X0 : Stand p l e (Room.mk 0 0 0 0) s m #[(.ref ob), (.int hq_)] below meth c s₁ [] 0 0 := Stand.of_body Bd
  have e0 : s₁.heap = h0 := by rw [← hh, Bd.state]; rfl
  have N0 := Fr.nil n0
  have pre0 : ∀ t, Steps p.tables e below (s₁.setTop (mkF m 0 #[rv ob, iv hq_, .unset, .unset] [])) t → Steps p.tables e below (s₁.setTop (entryFrame m #[(.ref ob), (.int hq_)] 4)) t := fun t k => castTop (ef_es_1 m ob hq_) k
  have wo128 := hw _ (own_m 128 rfl)
  have wo132 := hw _ (own_m 132 rfl)
  obtain ⟨T1, X1, e1, st1⟩ := getF X0 hx hZ hown (host := "") (Or.inl wo132) Via.refl e0 pf_F_ob_values (g := (mkF m 1 #[rv ob, iv hq_, .unset, .unset] [(.ref ob)])) rfl rfl (hb hby d35_1)
  obtain ⟨cl2, Ar2, Sz2, Nn2⟩ := id pf_L_va
  obtain ⟨T3, X3, e3, st3⟩ := getF X1 hx hZ hown (host := "") (Or.inl wo128) Via.refl e1 pf_F_ob_slots (g := (mkF m 13 #[rv ob, iv hq_, iv 7, iv (hq_ &&& 7)] [(.ref ob)])) rfl rfl (hb hby d35_13)
  obtain ⟨kk4, cl4, Ar4, qq4, Sz4, Nn4, Hs4, Gf4⟩ := id pf_A_sl
  have hin5 : ¬ ((((2 : Int32) * (hq_ &&& 7)) + 1) < 0 ∨ cl4.slots.size ≤ ((((2 : Int32) * (hq_ &&& 7)) + 1)).toNatClampNeg) := inb_of Sz4 (own_i1 (own_m7 _))
  have hat6 : cl4.slots[((((2 : Int32) * (hq_ &&& 7)) + 1)).toNatClampNeg]? = some (.int (own_g SL (((2 : Int32) * (hq_ &&& 7)) + 1))) := Has.at Hs4 hin5 (own_cvg _ _)
  have hc7 : (own_g SL (((2 : Int32) * (hq_ &&& 7)) + 1)) = 0 := hT.2.2 _ (own_m7 _)
  obtain ⟨fs, hr, hrun, hended, hW, hsame⟩ := X3.leave (v := some (.int (hq_ &&& 7))) (fun h => by rw [Bd.returns] at h; cases h)
  refine ⟨_, _, pre0 _ ?_, hrun, hended, _, _, rfl, ?_, ⟨_, rfl⟩, hW, hsame.mono (by decide) (by decide)⟩
  · show Steps _ _ _ (State.setTop _ (mkF m 0 #[rv ob, iv hq_, .unset, .unset] [])) _
    refine XS.aloadN X0.here hx rfl (hb hby d35_0) rfl rfl ?_
    show Steps _ _ _ (State.setTop _ (mkF m 1 #[rv ob, iv hq_, .unset, .unset] [(.ref ob)])) _
    refine st1 _ ?_
    refine X1.arraylength hx (by rw [e1]; exact Ar2.1) (State.isArrayOf_alike hZ.alike Ar2.2.1) (g := (mkF m 4 #[rv ob, iv hq_, .unset, .unset] [(.ref va)])) rfl rfl (hb hby d35_4) _ ?_
    rw [len_of Sz2 Nn2]
    show Steps _ _ _ (State.setTop _ (mkF m 5 #[rv ob, iv hq_, .unset, .unset] [(.int 8)])) _
    refine XS.iconst X1.here hx rfl (hb hby d35_5) ?_
    refine XS.isub X1.here hx rfl (hb hby d35_6) rfl ?_
    refine XS.istoreN X1.here hx rfl (hb hby d35_7) rfl (l' := #[rv ob, iv hq_, iv 7, .unset]) rfl ?_
    refine XS.iloadN X1.here hx rfl (hb hby d35_8) rfl ?_
    refine XS.iloadN X1.here hx rfl (hb hby d35_9) rfl ?_
    refine XS.iand X1.here hx rfl (hb hby d35_10) rfl ?_
    refine XS.istoreN X1.here hx rfl (hb hby d35_11) rfl (l' := #[rv ob, iv hq_, iv 7, iv (hq_ &&& 7)]) rfl ?_
    show Steps _ _ _ (State.setTop _ (mkF m 12 #[rv ob, iv hq_, iv 7, iv (hq_ &&& 7)] [])) _
    refine XS.aloadN X1.here hx rfl (hb hby d35_12) rfl rfl ?_
    refine st3 _ ?_
    refine XS.iconst X3.here hx rfl (hb hby d35_16) ?_
    refine XS.iloadN X3.here hx rfl (hb hby d35_17) rfl ?_
    refine XS.imul X3.here hx rfl (hb hby d35_18) rfl ?_
    refine XS.iconst X3.here hx rfl (hb hby d35_19) ?_
    refine XS.iadd X3.here hx rfl (hb hby d35_20) rfl ?_
    refine X3.iaload hx (j := (((2 : Int32) * (hq_ &&& 7)) + 1)) (v := (.int (own_g SL (((2 : Int32) * (hq_ &&& 7)) + 1)))) (by rw [e3]; exact Ar4.1) (State.isArrayOf_alike hZ.alike Ar4.2.1) Ar4.2.2 hin5 hat6 (g := (mkF m 21 #[rv ob, iv hq_, iv 7, iv (hq_ &&& 7)] [(.int (((2 : Int32) * (hq_ &&& 7)) + 1)), (.ref sl)])) rfl rfl (hb hby d35_21) _ ?_
    refine XS.ifYes X3.here hx rfl (pc0 := 22) (pc' := 34) rfl (hb hby d35_22) rfl ((if0 _ _).trans (teq hc7).1) (by decide) (by decide) ?_
    show Steps _ _ _ (State.setTop _ (mkF m 34 #[rv ob, iv hq_, iv 7, iv (hq_ &&& 7)] [])) _
    refine XS.iloadN X3.here hx rfl (hb hby d35_34) rfl ?_
    show Steps _ _ _ (State.setTop _ (mkF m 35 #[rv ob, iv hq_, iv 7, iv (hq_ &&& 7)] [(.int (hq_ &&& 7))])) _
    exact retI X3 hx Bd.returns (hb hby d35_35) hr
  · show Q_es_1 Z _ _ _ _ _ _ _ h0 n0 _ T3.heap _
    rw [e3]
    exact ⟨rfl, N0, rfl⟩
theorem d35_25 : decode prog_25_method_22_code 25 = .ok (.iload_n 3, 1) := by decide +kernel
theorem d35_26 : decode prog_25_method_22_code 26 = .ok (.iconst 1, 1) := by decide +kernel
theorem d35_27 : decode prog_25_method_22_code 27 = .ok (.iadd, 1) := by decide +kernel
theorem d35_28 : decode prog_25_method_22_code 28 = .ok (.iload_n 2, 1) := by decide +kernel
theorem d35_29 : decode prog_25_method_22_code 29 = .ok (.iand, 1) := by decide +kernel
theorem d35_30 : decode prog_25_method_22_code 30 = .ok (.istore_n 3, 1) := by decide +kernel
theorem d35_31 : decode prog_25_method_22_code 31 = .ok (.goto (-19), 3) := by decide +kernel
theorem ef_es_2 (m : MethodId) (x0 : Addr) (x1 : Int32) : entryFrame m #[(.ref x0), (.int x1)] 4 = mkF m 0 #[rv x0, iv x1, .unset, .unset] [] := by first | (simp [entryFrame, mkF, argsToLocals, Value.category]; done) | rfl
def Q_es_2 (Z : State) (ob sl va re : Addr) (SL RL : List Int32) (hq_ ha_ ua_ na_ : Int32) (Oa_ : List Int32) (wa_ : Int32) (h0 : Heap) (n0 : Nat) (v : Option Value) (h : Heap) (L : List Loc) : Prop := v = some (.int (own_sl2 hq_ (ha_ &&& 7))) ∧ Fr n0 L ∧ h = h0
set_option maxRecDepth 65536 in
set_option maxHeartbeats 40000000 in
theorem es_2 (l : Launch) (Z : State) (a0 : Array Value) (hw : ∀ d ∈ tables_1, d.before a0 Z = true) (ws : List Jvm.Cond) (ob sl va re : Addr) (SL RL : List Int32) (hq_ ha_ ua_ na_ : Int32) (Oa_ : List Int32) (wa_ : Int32) (h0 : Heap) (n0 : Nat) (Z0 : n0 ≤ h0.size) (pf_E_ob : Exa Z h0 ob "com/example/arbiter/arbiter/OrdinalTable") (pf_F_ob_slots : Fld Z h0 ob "com/example/arbiter/arbiter/OrdinalTable" "slots" "[I" (.ref sl)) (pf_F_ob_values : Fld Z h0 ob "com/example/arbiter/arbiter/OrdinalTable" "values" "[Ljava/lang/Object;" (.ref va)) (pf_F_ob_records : Fld Z h0 ob "com/example/arbiter/arbiter/OrdinalTable" "records" "[I" (.ref re)) (pf_A_sl : Av Z h0 sl .int 16 (own_cv SL) (.int 0)) (pf_L_va : Al Z h0 va (.object "java/lang/Object") (8 : Int32)) (pf_A_re : Av Z h0 re .int 64 (own_cv RL) (.int 0)) (hT : own_T1 SL RL ha_ ua_ na_ Oa_ wa_) (hu1 : 0 < ua_.toInt ∧ ua_.toInt < 20) :
    MetFree l MN35 (head1 (Jvm.Cond.code MN35 prog_25_method_22_code 4 (some .int) :: ws) (Room.mk 0 0 0 0)) (fun a U => a = #[(.ref ob), (.int hq_)] ∧ Z.Warmed39 U.vm ∧ U.heap = h0) (fun _ _ _ _ _ => True) (fun _ U o U' => ∃ v L, o = .returned v ∧ Q_es_2 Z ob sl va re SL RL hq_ ha_ ua_ na_ Oa_ wa_ h0 n0 v U'.heap L ∧ FrameEnd U o U' L (Room.mk 0 0 0 0).cells (Room.mk 0 0 0 0).slots) := by
  refine MetFree.of_bodySF (plainFor_of_name pn_com_example_arbiter_arbiter_OrdinalTable) hisR ?_
  intro p e s m args below meth c s₁ Bd hml0 hP hK
  obtain ⟨rfl, hZ, hh⟩ := hP
  have hx := Bd.exec
  have hby := Bd.bytes
  have hml : c.maxLocals = 4 := hml0
  have hown : s.vm.findClass "com/example/arbiter/arbiter/OrdinalTable" = some m.cls := findClass_of_methodNamed Bd.named
  have hnm := (name_of_methodNamed Bd.named Bd.method).1
  have X0 : Stand p l e (Room.mk 0 0 0 0) s m #[(.ref ob), (.int hq_)] below meth c s₁ [] 0 0 := Stand.of_body Bd
  have e0 : s₁.heap = h0 := by rw [← hh, Bd.state]; rfl
  have N0 := Fr.nil n0
  have pre0 : ∀ t, Steps p.tables e below (s₁.setTop (mkF m 0 #[rv ob, iv hq_, .unset, .unset] [])) t → Steps p.tables e below (s₁.setTop (entryFrame m #[(.ref ob), (.int hq_)] 4)) t := fun t k => castTop (ef_es_2 m ob hq_) k
  have wo128 := hw _ (own_m 128 rfl)
  have wo132 := hw _ (own_m 132 rfl)
  obtain ⟨T1, X1, e1, st1⟩ := getF X0 hx hZ hown (host := "") (Or.inl wo132) Via.refl e0 pf_F_ob_values (g := (mkF m 1 #[rv ob, iv hq_, .unset, .unset] [(.ref ob)])) rfl rfl (hb hby d35_1)
  obtain ⟨cl2, Ar2, Sz2, Nn2⟩ := id pf_L_va
  have pre3 : ∀ t, Steps p.tables e below (T1.setTop (mkF m 12 #[rv ob, iv hq_, iv 7, iv (hq_ &&& 7)] [])) t → Steps p.tables e below (s₁.setTop (entryFrame m #[(.ref ob), (.int hq_)] 4)) t := by
    intro t_ k_
    refine pre0 _ ?_
    show Steps _ _ _ (State.setTop _ (mkF m 0 #[rv ob, iv hq_, .unset, .unset] [])) _
    refine XS.aloadN X0.here hx rfl (hb hby d35_0) rfl rfl ?_
    refine st1 _ ?_
    refine X1.arraylength hx (by rw [e1]; exact Ar2.1) (State.isArrayOf_alike hZ.alike Ar2.2.1) (g := (mkF m 4 #[rv ob, iv hq_, .unset, .unset] [(.ref va)])) rfl rfl (hb hby d35_4) _ ?_
    rw [len_of Sz2 Nn2]
    show Steps _ _ _ (State.setTop _ (mkF m 5 #[rv ob, iv hq_, .unset, .unset] [(.int 8)])) _
    refine XS.iconst X1.here hx rfl (hb hby d35_5) ?_
    refine XS.isub X1.here hx rfl (hb hby d35_6) rfl ?_
    refine XS.istoreN X1.here hx rfl (hb hby d35_7) rfl (l' := #[rv ob, iv hq_, iv 7, .unset]) rfl ?_
    refine XS.iloadN X1.here hx rfl (hb hby d35_8) rfl ?_
    refine XS.iloadN X1.here hx rfl (hb hby d35_9) rfl ?_
    refine XS.iand X1.here hx rfl (hb hby d35_10) rfl ?_
    show Steps _ _ _ (State.setTop _ (mkF m 11 #[rv ob, iv hq_, iv 7, .unset] [(.int (hq_ &&& 7))])) _
    refine XS.istoreN X1.here hx rfl (hb hby d35_11) rfl (l' := #[rv ob, iv hq_, iv 7, iv (hq_ &&& 7)]) rfl ?_
    exact k_
  by_cases hb4 : (hq_ &&& 7) = (ha_ &&& 7)
  · skip
    obtain ⟨T5, X5, e5, st5⟩ := getF X1 hx hZ hown (host := "") (Or.inl wo128) Via.refl e1 pf_F_ob_slots (g := (mkF m 13 #[rv ob, iv hq_, iv 7, iv (hq_ &&& 7)] [(.ref ob)])) rfl rfl (hb hby d35_13)
    obtain ⟨kk6, cl6, Ar6, qq6, Sz6, Nn6, Hs6, Gf6⟩ := id pf_A_sl
    have hin7 : ¬ ((((2 : Int32) * (hq_ &&& 7)) + 1) < 0 ∨ cl6.slots.size ≤ ((((2 : Int32) * (hq_ &&& 7)) + 1)).toNatClampNeg) := inb_of Sz6 (own_i1 (own_m7 _))
    have hat8 : cl6.slots[((((2 : Int32) * (hq_ &&& 7)) + 1)).toNatClampNeg]? = some (.int (own_g SL (((2 : Int32) * (hq_ &&& 7)) + 1))) := Has.at Hs6 hin7 (own_cvg _ _)
    have hc9 : ¬ ((own_g SL (((2 : Int32) * (hq_ &&& 7)) + 1)) = 0) := by rw [hb4, hT.2.2.2.1]; exact own_z0 hu1.1
    have q10 : (((hq_ &&& 7) + 1) &&& 7) = (own_sl2 hq_ (ha_ &&& 7)) := by unfold own_sl2; rw [if_pos hb4, hb4]
    obtain ⟨T11, X11, e11, st11⟩ := getF X5 hx hZ hown (host := "") (Or.inl wo128) Via.refl e5 pf_F_ob_slots (g := (mkF m 13 #[rv ob, iv hq_, iv 7, iv (own_sl2 hq_ (ha_ &&& 7))] [(.ref ob)])) rfl rfl (hb hby d35_13)
    obtain ⟨kk12, cl12, Ar12, qq12, Sz12, Nn12, Hs12, Gf12⟩ := id pf_A_sl
    have hin13 : ¬ ((((2 : Int32) * (own_sl2 hq_ (ha_ &&& 7))) + 1) < 0 ∨ cl12.slots.size ≤ ((((2 : Int32) * (own_sl2 hq_ (ha_ &&& 7))) + 1)).toNatClampNeg) := inb_of Sz12 (own_i1 (own_sl2r _ _))
    have hat14 : cl12.slots[((((2 : Int32) * (own_sl2 hq_ (ha_ &&& 7))) + 1)).toNatClampNeg]? = some (.int (own_g SL (((2 : Int32) * (own_sl2 hq_ (ha_ &&& 7))) + 1))) := Has.at Hs12 hin13 (own_cvg _ _)
    have hc15 : (own_g SL (((2 : Int32) * (own_sl2 hq_ (ha_ &&& 7))) + 1)) = 0 := hT.2.2.2.2.1 _ (own_sl2r _ _) (own_sl2n (own_m7 _))
    obtain ⟨fs, hr, hrun, hended, hW, hsame⟩ := X11.leave (v := some (.int (own_sl2 hq_ (ha_ &&& 7)))) (fun h => by rw [Bd.returns] at h; cases h)
    refine ⟨_, _, pre3 _ ?_, hrun, hended, _, _, rfl, ?_, ⟨_, rfl⟩, hW, hsame.mono (by decide) (by decide)⟩
    · show Steps _ _ _ (State.setTop _ (mkF m 12 #[rv ob, iv hq_, iv 7, iv (hq_ &&& 7)] [])) _
      refine XS.aloadN X1.here hx rfl (hb hby d35_12) rfl rfl ?_
      refine st5 _ ?_
      refine XS.iconst X5.here hx rfl (hb hby d35_16) ?_
      refine XS.iloadN X5.here hx rfl (hb hby d35_17) rfl ?_
      refine XS.imul X5.here hx rfl (hb hby d35_18) rfl ?_
      refine XS.iconst X5.here hx rfl (hb hby d35_19) ?_
      refine XS.iadd X5.here hx rfl (hb hby d35_20) rfl ?_
      refine X5.iaload hx (j := (((2 : Int32) * (hq_ &&& 7)) + 1)) (v := (.int (own_g SL (((2 : Int32) * (hq_ &&& 7)) + 1)))) (by rw [e5]; exact Ar6.1) (State.isArrayOf_alike hZ.alike Ar6.2.1) Ar6.2.2 hin7 hat8 (g := (mkF m 21 #[rv ob, iv hq_, iv 7, iv (hq_ &&& 7)] [(.int (((2 : Int32) * (hq_ &&& 7)) + 1)), (.ref sl)])) rfl rfl (hb hby d35_21) _ ?_
      refine XS.ifNo X5.here hx rfl (hb hby d35_22) rfl ((if0 _ _).trans (feq hc9).1) ?_
      show Steps _ _ _ (State.setTop _ (mkF m 25 #[rv ob, iv hq_, iv 7, iv (hq_ &&& 7)] [])) _
      refine XS.iloadN X5.here hx rfl (hb hby d35_25) rfl ?_
      refine XS.iconst X5.here hx rfl (hb hby d35_26) ?_
      refine XS.iadd X5.here hx rfl (hb hby d35_27) rfl ?_
      refine XS.iloadN X5.here hx rfl (hb hby d35_28) rfl ?_
      refine XS.iand X5.here hx rfl (hb hby d35_29) rfl ?_
      refine XS.istoreN X5.here hx rfl (hb hby d35_30) rfl (l' := #[rv ob, iv hq_, iv 7, iv (((hq_ &&& 7) + 1) &&& 7)]) rfl ?_
      refine XS.goto X5.here hx rfl (pc0 := 31) (pc' := 12) rfl (hb hby d35_31) (by decide) (by decide) ?_
      show Steps _ _ _ (State.setTop _ (mkF m 12 #[rv ob, iv hq_, iv 7, iv (((hq_ &&& 7) + 1) &&& 7)] [])) _
      rw [q10]
      show Steps _ _ _ (State.setTop _ (mkF m 12 #[rv ob, iv hq_, iv 7, iv (own_sl2 hq_ (ha_ &&& 7))] [])) _
      show Steps _ _ _ (State.setTop _ (mkF m 12 #[rv ob, iv hq_, iv 7, iv (own_sl2 hq_ (ha_ &&& 7))] [])) _
      refine XS.aloadN X5.here hx rfl (hb hby d35_12) rfl rfl ?_
      refine st11 _ ?_
      refine XS.iconst X11.here hx rfl (hb hby d35_16) ?_
      refine XS.iloadN X11.here hx rfl (hb hby d35_17) rfl ?_
      refine XS.imul X11.here hx rfl (hb hby d35_18) rfl ?_
      refine XS.iconst X11.here hx rfl (hb hby d35_19) ?_
      refine XS.iadd X11.here hx rfl (hb hby d35_20) rfl ?_
      refine X11.iaload hx (j := (((2 : Int32) * (own_sl2 hq_ (ha_ &&& 7))) + 1)) (v := (.int (own_g SL (((2 : Int32) * (own_sl2 hq_ (ha_ &&& 7))) + 1)))) (by rw [e11]; exact Ar12.1) (State.isArrayOf_alike hZ.alike Ar12.2.1) Ar12.2.2 hin13 hat14 (g := (mkF m 21 #[rv ob, iv hq_, iv 7, iv (own_sl2 hq_ (ha_ &&& 7))] [(.int (((2 : Int32) * (own_sl2 hq_ (ha_ &&& 7))) + 1)), (.ref sl)])) rfl rfl (hb hby d35_21) _ ?_
      refine XS.ifYes X11.here hx rfl (pc0 := 22) (pc' := 34) rfl (hb hby d35_22) rfl ((if0 _ _).trans (teq hc15).1) (by decide) (by decide) ?_
      show Steps _ _ _ (State.setTop _ (mkF m 34 #[rv ob, iv hq_, iv 7, iv (own_sl2 hq_ (ha_ &&& 7))] [])) _
      refine XS.iloadN X11.here hx rfl (hb hby d35_34) rfl ?_
      show Steps _ _ _ (State.setTop _ (mkF m 35 #[rv ob, iv hq_, iv 7, iv (own_sl2 hq_ (ha_ &&& 7))] [(.int (own_sl2 hq_ (ha_ &&& 7)))])) _
      exact retI X11 hx Bd.returns (hb hby d35_35) hr
    · show Q_es_2 Z _ _ _ _ _ _ _ _ _ _ _ _ h0 n0 _ T11.heap _
      rw [e11]
      exact ⟨rfl, N0, rfl⟩
  · skip
    have q16 : (hq_ &&& 7) = (own_sl2 hq_ (ha_ &&& 7)) := by unfold own_sl2; rw [if_neg hb4]
    obtain ⟨T17, X17, e17, st17⟩ := getF X1 hx hZ hown (host := "") (Or.inl wo128) Via.refl e1 pf_F_ob_slots (g := (mkF m 13 #[rv ob, iv hq_, iv 7, iv (own_sl2 hq_ (ha_ &&& 7))] [(.ref ob)])) rfl rfl (hb hby d35_13)
    obtain ⟨kk18, cl18, Ar18, qq18, Sz18, Nn18, Hs18, Gf18⟩ := id pf_A_sl
    have hin19 : ¬ ((((2 : Int32) * (own_sl2 hq_ (ha_ &&& 7))) + 1) < 0 ∨ cl18.slots.size ≤ ((((2 : Int32) * (own_sl2 hq_ (ha_ &&& 7))) + 1)).toNatClampNeg) := inb_of Sz18 (own_i1 (own_sl2r _ _))
    have hat20 : cl18.slots[((((2 : Int32) * (own_sl2 hq_ (ha_ &&& 7))) + 1)).toNatClampNeg]? = some (.int (own_g SL (((2 : Int32) * (own_sl2 hq_ (ha_ &&& 7))) + 1))) := Has.at Hs18 hin19 (own_cvg _ _)
    have hc21 : (own_g SL (((2 : Int32) * (own_sl2 hq_ (ha_ &&& 7))) + 1)) = 0 := hT.2.2.2.2.1 _ (own_sl2r _ _) (own_sl2n (own_m7 _))
    obtain ⟨fs, hr, hrun, hended, hW, hsame⟩ := X17.leave (v := some (.int (own_sl2 hq_ (ha_ &&& 7)))) (fun h => by rw [Bd.returns] at h; cases h)
    refine ⟨_, _, pre3 _ ?_, hrun, hended, _, _, rfl, ?_, ⟨_, rfl⟩, hW, hsame.mono (by decide) (by decide)⟩
    · show Steps _ _ _ (State.setTop _ (mkF m 12 #[rv ob, iv hq_, iv 7, iv (hq_ &&& 7)] [])) _
      rw [q16]
      show Steps _ _ _ (State.setTop _ (mkF m 12 #[rv ob, iv hq_, iv 7, iv (own_sl2 hq_ (ha_ &&& 7))] [])) _
      show Steps _ _ _ (State.setTop _ (mkF m 12 #[rv ob, iv hq_, iv 7, iv (own_sl2 hq_ (ha_ &&& 7))] [])) _
      refine XS.aloadN X1.here hx rfl (hb hby d35_12) rfl rfl ?_
      refine st17 _ ?_
      refine XS.iconst X17.here hx rfl (hb hby d35_16) ?_
      refine XS.iloadN X17.here hx rfl (hb hby d35_17) rfl ?_
      refine XS.imul X17.here hx rfl (hb hby d35_18) rfl ?_
      refine XS.iconst X17.here hx rfl (hb hby d35_19) ?_
      show Steps _ _ _ (State.setTop _ (mkF m 20 #[rv ob, iv hq_, iv 7, iv (own_sl2 hq_ (ha_ &&& 7))] [(.int 1), (.int ((2 : Int32) * (own_sl2 hq_ (ha_ &&& 7)))), (.ref sl)])) _
      refine XS.iadd X17.here hx rfl (hb hby d35_20) rfl ?_
      refine X17.iaload hx (j := (((2 : Int32) * (own_sl2 hq_ (ha_ &&& 7))) + 1)) (v := (.int (own_g SL (((2 : Int32) * (own_sl2 hq_ (ha_ &&& 7))) + 1)))) (by rw [e17]; exact Ar18.1) (State.isArrayOf_alike hZ.alike Ar18.2.1) Ar18.2.2 hin19 hat20 (g := (mkF m 21 #[rv ob, iv hq_, iv 7, iv (own_sl2 hq_ (ha_ &&& 7))] [(.int (((2 : Int32) * (own_sl2 hq_ (ha_ &&& 7))) + 1)), (.ref sl)])) rfl rfl (hb hby d35_21) _ ?_
      refine XS.ifYes X17.here hx rfl (pc0 := 22) (pc' := 34) rfl (hb hby d35_22) rfl ((if0 _ _).trans (teq hc21).1) (by decide) (by decide) ?_
      refine XS.iloadN X17.here hx rfl (hb hby d35_34) rfl ?_
      show Steps _ _ _ (State.setTop _ (mkF m 35 #[rv ob, iv hq_, iv 7, iv (own_sl2 hq_ (ha_ &&& 7))] [(.int (own_sl2 hq_ (ha_ &&& 7)))])) _
      exact retI X17 hx Bd.returns (hb hby d35_35) hr
    · show Q_es_2 Z _ _ _ _ _ _ _ _ _ _ _ _ h0 n0 _ T17.heap _
      rw [e17]
      exact ⟨rfl, N0, rfl⟩
theorem d34_0 : decode prog_25_method_18_code 0 = .ok (.aload_n 0, 1) := by decide +kernel
theorem d34_1 : decode prog_25_method_18_code 1 = .ok (.getfield 26, 3) := by decide +kernel
theorem d34_4 : decode prog_25_method_18_code 4 = .ok (.arraylength, 1) := by decide +kernel
theorem d34_5 : decode prog_25_method_18_code 5 = .ok (.iconst 1, 1) := by decide +kernel
theorem d34_6 : decode prog_25_method_18_code 6 = .ok (.isub, 1) := by decide +kernel
theorem d34_7 : decode prog_25_method_18_code 7 = .ok (.istore 4, 2) := by decide +kernel
theorem d34_9 : decode prog_25_method_18_code 9 = .ok (.iload_n 1, 1) := by decide +kernel
theorem d34_10 : decode prog_25_method_18_code 10 = .ok (.iload 4, 2) := by decide +kernel
theorem d34_12 : decode prog_25_method_18_code 12 = .ok (.iand, 1) := by decide +kernel
theorem d34_13 : decode prog_25_method_18_code 13 = .ok (.istore 5, 2) := by decide +kernel
theorem d34_15 : decode prog_25_method_18_code 15 = .ok (.aload_n 0, 1) := by decide +kernel
theorem d34_16 : decode prog_25_method_18_code 16 = .ok (.getfield 22, 3) := by decide +kernel
theorem d34_19 : decode prog_25_method_18_code 19 = .ok (.iconst 2, 1) := by decide +kernel
theorem d34_20 : decode prog_25_method_18_code 20 = .ok (.iload 5, 2) := by decide +kernel
theorem d34_22 : decode prog_25_method_18_code 22 = .ok (.imul, 1) := by decide +kernel
theorem d34_23 : decode prog_25_method_18_code 23 = .ok (.iconst 1, 1) := by decide +kernel
theorem d34_24 : decode prog_25_method_18_code 24 = .ok (.iadd, 1) := by decide +kernel
theorem d34_25 : decode prog_25_method_18_code 25 = .ok (.iaload, 1) := by decide +kernel
theorem d34_26 : decode prog_25_method_18_code 26 = .ok (.istore 6, 2) := by decide +kernel
theorem d34_28 : decode prog_25_method_18_code 28 = .ok (.iload 6, 2) := by decide +kernel
theorem d34_30 : decode prog_25_method_18_code 30 = .ok (.ifCond .eq 55, 3) := by decide +kernel
theorem d34_85 : decode prog_25_method_18_code 85 = .ok (.iconst (-1), 1) := by decide +kernel
theorem d34_86 : decode prog_25_method_18_code 86 = .ok (.ireturn, 1) := by decide +kernel
theorem ef_fi_1e (m : MethodId) (x0 : Addr) (x1 : Int32) (x2 : Addr) : entryFrame m #[(.ref x0), (.int x1), (.ref x2), .null] 7 = mkF m 0 #[rv x0, iv x1, rv x2, .val .null, .unset, .unset, .unset] [] := by first | (simp [entryFrame, mkF, argsToLocals, Value.category]; done) | rfl
def Q_fi_1e (Z : State) (ob sl va re : Addr) (SL RL : List Int32) (hq_ : Int32) (st_ sv_ : Addr) (c0 cs : Int32) (fm : Value) (h0 : Heap) (n0 : Nat) (v : Option Value) (h : Heap) (L : List Loc) : Prop := v = some (.int (-1 : Int32)) ∧ Fr n0 L ∧ h = h0
set_option maxRecDepth 65536 in
set_option maxHeartbeats 40000000 in
theorem fi_1e (l : Launch) (Z : State) (a0 : Array Value) (hw : ∀ d ∈ tables_1, d.before a0 Z = true) (ws : List Jvm.Cond) (ob sl va re : Addr) (SL RL : List Int32) (hq_ : Int32) (st_ sv_ : Addr) (c0 cs : Int32) (fm : Value) (h0 : Heap) (n0 : Nat) (Z0 : n0 ≤ h0.size) (pf_O : Old Z n0 h0) (pS_COMPAC : Sta Z Z.heap "java/lang/String" "COMPACT_STRINGS" "Z" (.int cs)) (hcs : ¬ (cs = 0)) (pS_SIOOBE : Sta Z Z.heap "jdk/internal/util/Preconditions" "SIOOBE_FORMATTER" "Ljava/util/function/BiFunction;" fm) (rfm : fm.isRef = true) (pf_E_st_ : Exa Z h0 st_ "java/lang/String") (pf_F_st__value : Fld Z h0 st_ "java/lang/String" "value" "[B" (.ref sv_)) (pf_F_st__coder : Fld Z h0 st_ "java/lang/String" "coder" "B" (.int 0)) (pf_A_sv_ : Av Z h0 sv_ .byte (1 : Int32) (own_vs [c0]) (.int 0)) (hrA : ∀ c ∈ ([c0] : List Int32), ¬ c < 0 ∧ ¬ (255 : Int32) < c) (pf_E_ob : Exa Z h0 ob "com/example/arbiter/arbiter/OrdinalTable") (pf_F_ob_slots : Fld Z h0 ob "com/example/arbiter/arbiter/OrdinalTable" "slots" "[I" (.ref sl)) (pf_F_ob_values : Fld Z h0 ob "com/example/arbiter/arbiter/OrdinalTable" "values" "[Ljava/lang/Object;" (.ref va)) (pf_F_ob_records : Fld Z h0 ob "com/example/arbiter/arbiter/OrdinalTable" "records" "[I" (.ref re)) (pf_A_sl : Av Z h0 sl .int 16 (own_cv SL) (.int 0)) (pf_L_va : Al Z h0 va (.object "java/lang/Object") (8 : Int32)) (pf_A_re : Av Z h0 re .int 64 (own_cv RL) (.int 0)) (hT : own_T0 SL RL) :
    MetFree l MN34 (head1 (Jvm.Cond.code MN34 prog_25_method_18_code 7 (some .int) :: ws) (Room.mk 0 0 0 0)) (fun a U => a = #[(.ref ob), (.int hq_), (.ref st_), .null] ∧ Z.Warmed39 U.vm ∧ U.heap = h0) (fun _ _ _ _ _ => True) (fun _ U o U' => ∃ v L, o = .returned v ∧ Q_fi_1e Z ob sl va re SL RL hq_ st_ sv_ c0 cs fm h0 n0 v U'.heap L ∧ FrameEnd U o U' L (Room.mk 0 0 0 0).cells (Room.mk 0 0 0 0).slots) := by
  refine MetFree.of_bodySF (plainFor_of_name pn_com_example_arbiter_arbiter_OrdinalTable) hisR ?_
  intro p e s m args below meth c s₁ Bd hml0 hP hK
  obtain ⟨rfl, hZ, hh⟩ := hP
  have hx := Bd.exec
  have hby := Bd.bytes
  have hml : c.maxLocals = 7 := hml0
  have hown : s.vm.findClass "com/example/arbiter/arbiter/OrdinalTable" = some m.cls := findClass_of_methodNamed Bd.named
  have hnm := (name_of_methodNamed Bd.named Bd.method).1
  have X0 : Stand p l e (Room.mk 0 0 0 0) s m #[(.ref ob), (.int hq_), (.ref st_), .null] below meth c s₁ [] 0 0 := Stand.of_body Bd
  have e0 : s₁.heap = h0 := by rw [← hh, Bd.state]; rfl
  have N0 := Fr.nil n0
  have pre0 : ∀ t, Steps p.tables e below (s₁.setTop (mkF m 0 #[rv ob, iv hq_, rv st_, .val .null, .unset, .unset, .unset] [])) t → Steps p.tables e below (s₁.setTop (entryFrame m #[(.ref ob), (.int hq_), (.ref st_), .null] 7)) t := fun t k => castTop (ef_fi_1e m ob hq_ st_) k
  have wo128 := hw _ (own_m 128 rfl)
  have wo132 := hw _ (own_m 132 rfl)
  obtain ⟨T1, X1, e1, st1⟩ := getF X0 hx hZ hown (host := "") (Or.inl wo132) Via.refl e0 pf_F_ob_values (g := (mkF m 1 #[rv ob, iv hq_, rv st_, .val .null, .unset, .unset, .unset] [(.ref ob)])) rfl rfl (hb hby d34_1)
  obtain ⟨cl2, Ar2, Sz2, Nn2⟩ := id pf_L_va
  obtain ⟨T3, X3, e3, st3⟩ := getF X1 hx hZ hown (host := "") (Or.inl wo128) Via.refl e1 pf_F_ob_slots (g := (mkF m 16 #[rv ob, iv hq_, rv st_, .val .null, iv 7, iv (hq_ &&& 7), .unset] [(.ref ob)])) rfl rfl (hb hby d34_16)
  obtain ⟨kk4, cl4, Ar4, qq4, Sz4, Nn4, Hs4, Gf4⟩ := id pf_A_sl
  have hin5 : ¬ ((((2 : Int32) * (hq_ &&& 7)) + 1) < 0 ∨ cl4.slots.size ≤ ((((2 : Int32) * (hq_ &&& 7)) + 1)).toNatClampNeg) := inb_of Sz4 (own_i1 (own_m7 _))
  have hat6 : cl4.slots[((((2 : Int32) * (hq_ &&& 7)) + 1)).toNatClampNeg]? = some (.int (own_g SL (((2 : Int32) * (hq_ &&& 7)) + 1))) := Has.at Hs4 hin5 (own_cvg _ _)
  have hc7 : (own_g SL (((2 : Int32) * (hq_ &&& 7)) + 1)) = 0 := hT.2.2 _ (own_m7 _)
  obtain ⟨fs, hr, hrun, hended, hW, hsame⟩ := X3.leave (v := some (.int (-1 : Int32))) (fun h => by rw [Bd.returns] at h; cases h)
  refine ⟨_, _, pre0 _ ?_, hrun, hended, _, _, rfl, ?_, ⟨_, rfl⟩, hW, hsame.mono (by decide) (by decide)⟩
  · show Steps _ _ _ (State.setTop _ (mkF m 0 #[rv ob, iv hq_, rv st_, .val .null, .unset, .unset, .unset] [])) _
    refine XS.aloadN X0.here hx rfl (hb hby d34_0) rfl rfl ?_
    show Steps _ _ _ (State.setTop _ (mkF m 1 #[rv ob, iv hq_, rv st_, .val .null, .unset, .unset, .unset] [(.ref ob)])) _
    refine st1 _ ?_
    refine X1.arraylength hx (by rw [e1]; exact Ar2.1) (State.isArrayOf_alike hZ.alike Ar2.2.1) (g := (mkF m 4 #[rv ob, iv hq_, rv st_, .val .null, .unset, .unset, .unset] [(.ref va)])) rfl rfl (hb hby d34_4) _ ?_
    rw [len_of Sz2 Nn2]
    show Steps _ _ _ (State.setTop _ (mkF m 5 #[rv ob, iv hq_, rv st_, .val .null, .unset, .unset, .unset] [(.int 8)])) _
    refine XS.iconst X1.here hx rfl (hb hby d34_5) ?_
    refine XS.isub X1.here hx rfl (hb hby d34_6) rfl ?_
    refine XS.istore X1.here hx rfl (hb hby d34_7) rfl (l' := #[rv ob, iv hq_, rv st_, .val .null, iv 7, .unset, .unset]) rfl ?_
    refine XS.iloadN X1.here hx rfl (hb hby d34_9) rfl ?_
    refine XS.iload X1.here hx rfl (hb hby d34_10) rfl ?_
    refine XS.iand X1.here hx rfl (hb hby d34_12) rfl ?_
    refine XS.istore X1.here hx rfl (hb hby d34_13) rfl (l' := #[rv ob, iv hq_, rv st_, .val .null, iv 7, iv (hq_ &&& 7), .unset]) rfl ?_
    show Steps _ _ _ (State.setTop _ (mkF m 15 #[rv ob, iv hq_, rv st_, .val .null, iv 7, iv (hq_ &&& 7), .unset] [])) _
    refine XS.aloadN X1.here hx rfl (hb hby d34_15) rfl rfl ?_
    refine st3 _ ?_
    refine XS.iconst X3.here hx rfl (hb hby d34_19) ?_
    refine XS.iload X3.here hx rfl (hb hby d34_20) rfl ?_
    refine XS.imul X3.here hx rfl (hb hby d34_22) rfl ?_
    refine XS.iconst X3.here hx rfl (hb hby d34_23) ?_
    refine XS.iadd X3.here hx rfl (hb hby d34_24) rfl ?_
    refine X3.iaload hx (j := (((2 : Int32) * (hq_ &&& 7)) + 1)) (v := (.int (own_g SL (((2 : Int32) * (hq_ &&& 7)) + 1)))) (by rw [e3]; exact Ar4.1) (State.isArrayOf_alike hZ.alike Ar4.2.1) Ar4.2.2 hin5 hat6 (g := (mkF m 25 #[rv ob, iv hq_, rv st_, .val .null, iv 7, iv (hq_ &&& 7), .unset] [(.int (((2 : Int32) * (hq_ &&& 7)) + 1)), (.ref sl)])) rfl rfl (hb hby d34_25) _ ?_
    refine XS.istore X3.here hx rfl (hb hby d34_26) rfl (l' := #[rv ob, iv hq_, rv st_, .val .null, iv 7, iv (hq_ &&& 7), iv (own_g SL (((2 : Int32) * (hq_ &&& 7)) + 1))]) rfl ?_
    show Steps _ _ _ (State.setTop _ (mkF m 28 #[rv ob, iv hq_, rv st_, .val .null, iv 7, iv (hq_ &&& 7), iv (own_g SL (((2 : Int32) * (hq_ &&& 7)) + 1))] [])) _
    refine XS.iload X3.here hx rfl (hb hby d34_28) rfl ?_
    refine XS.ifYes X3.here hx rfl (pc0 := 30) (pc' := 85) rfl (hb hby d34_30) rfl ((if0 _ _).trans (teq hc7).1) (by decide) (by decide) ?_
    refine XS.iconst X3.here hx rfl (hb hby d34_85) ?_
    show Steps _ _ _ (State.setTop _ (mkF m 86 #[rv ob, iv hq_, rv st_, .val .null, iv 7, iv (hq_ &&& 7), iv (own_g SL (((2 : Int32) * (hq_ &&& 7)) + 1))] [(.int (-1 : Int32))])) _
    exact retI X3 hx Bd.returns (hb hby d34_86) hr
  · show Q_fi_1e Z _ _ _ _ _ _ _ _ _ _ _ _ h0 n0 _ T3.heap _
    rw [e3]
    exact ⟨rfl, N0, rfl⟩
theorem d34_33 : decode prog_25_method_18_code 33 = .ok (.aload_n 0, 1) := by decide +kernel
theorem d34_34 : decode prog_25_method_18_code 34 = .ok (.getfield 22, 3) := by decide +kernel
theorem d34_37 : decode prog_25_method_18_code 37 = .ok (.iconst 2, 1) := by decide +kernel
theorem d34_38 : decode prog_25_method_18_code 38 = .ok (.iload 5, 2) := by decide +kernel
theorem d34_40 : decode prog_25_method_18_code 40 = .ok (.imul, 1) := by decide +kernel
theorem d34_41 : decode prog_25_method_18_code 41 = .ok (.iaload, 1) := by decide +kernel
theorem d34_42 : decode prog_25_method_18_code 42 = .ok (.iload_n 1, 1) := by decide +kernel
theorem d34_43 : decode prog_25_method_18_code 43 = .ok (.if_icmp .ne 17, 3) := by decide +kernel
theorem d34_46 : decode prog_25_method_18_code 46 = .ok (.aload_n 0, 1) := by decide +kernel
theorem d34_47 : decode prog_25_method_18_code 47 = .ok (.iload 6, 2) := by decide +kernel
theorem d34_49 : decode prog_25_method_18_code 49 = .ok (.aload_n 2, 1) := by decide +kernel
theorem d34_50 : decode prog_25_method_18_code 50 = .ok (.aload_n 3, 1) := by decide +kernel
theorem pd_20 : parseMethodDescriptor "(ILjava/lang/String;Ljava/lang/String;)Z" = some ⟨[.int, (.object "java/lang/String"), (.object "java/lang/String")], some .boolean⟩ := by decide +kernel
theorem d34_51 : decode prog_25_method_18_code 51 = .ok (.invokevirtual 99, 3) := by decide +kernel
theorem d34_54 : decode prog_25_method_18_code 54 = .ok (.ifCond .eq 6, 3) := by decide +kernel
theorem d34_60 : decode prog_25_method_18_code 60 = .ok (.iload 5, 2) := by decide +kernel
theorem d34_62 : decode prog_25_method_18_code 62 = .ok (.iconst 1, 1) := by decide +kernel
theorem d34_63 : decode prog_25_method_18_code 63 = .ok (.iadd, 1) := by decide +kernel
theorem d34_64 : decode prog_25_method_18_code 64 = .ok (.iload 4, 2) := by decide +kernel
theorem d34_66 : decode prog_25_method_18_code 66 = .ok (.iand, 1) := by decide +kernel
theorem d34_67 : decode prog_25_method_18_code 67 = .ok (.istore 5, 2) := by decide +kernel
theorem d34_69 : decode prog_25_method_18_code 69 = .ok (.aload_n 0, 1) := by decide +kernel
theorem d34_70 : decode prog_25_method_18_code 70 = .ok (.getfield 22, 3) := by decide +kernel
theorem d34_73 : decode prog_25_method_18_code 73 = .ok (.iconst 2, 1) := by decide +kernel
theorem d34_74 : decode prog_25_method_18_code 74 = .ok (.iload 5, 2) := by decide +kernel
theorem d34_76 : decode prog_25_method_18_code 76 = .ok (.imul, 1) := by decide +kernel
theorem d34_77 : decode prog_25_method_18_code 77 = .ok (.iconst 1, 1) := by decide +kernel
theorem d34_78 : decode prog_25_method_18_code 78 = .ok (.iadd, 1) := by decide +kernel
theorem d34_79 : decode prog_25_method_18_code 79 = .ok (.iaload, 1) := by decide +kernel
theorem d34_80 : decode prog_25_method_18_code 80 = .ok (.istore 6, 2) := by decide +kernel
theorem d34_82 : decode prog_25_method_18_code 82 = .ok (.goto (-54), 3) := by decide +kernel
theorem ef_fi_2a (m : MethodId) (x0 : Addr) (x1 : Int32) (x2 : Addr) : entryFrame m #[(.ref x0), (.int x1), (.ref x2), .null] 7 = mkF m 0 #[rv x0, iv x1, rv x2, .val .null, .unset, .unset, .unset] [] := by first | (simp [entryFrame, mkF, argsToLocals, Value.category]; done) | rfl
def Q_fi_2a (Z : State) (ob sl va re : Addr) (SL RL : List Int32) (hq_ ha_ ua_ na_ : Int32) (Oa_ : List Int32) (wa_ : Int32) (st_ sv_ : Addr) (c0 c1 cs : Int32) (fm : Value) (h0 : Heap) (n0 : Nat) (v : Option Value) (h : Heap) (L : List Loc) : Prop := v = some (.int (-1 : Int32)) ∧ Fr n0 L ∧ h = h0
set_option maxRecDepth 65536 in
set_option maxHeartbeats 40000000 in
theorem fi_2a (l : Launch) (Z : State) (a0 : Array Value) (hw : ∀ d ∈ tables_1, d.before a0 Z = true) (ws : List Jvm.Cond) (ob sl va re : Addr) (SL RL : List Int32) (hq_ ha_ ua_ na_ : Int32) (Oa_ : List Int32) (wa_ : Int32) (st_ sv_ : Addr) (c0 c1 cs : Int32) (fm : Value) (h0 : Heap) (n0 : Nat) (Z0 : n0 ≤ h0.size) (pf_O : Old Z n0 h0) (pS_COMPAC : Sta Z Z.heap "java/lang/String" "COMPACT_STRINGS" "Z" (.int cs)) (hcs : ¬ (cs = 0)) (pS_SIOOBE : Sta Z Z.heap "jdk/internal/util/Preconditions" "SIOOBE_FORMATTER" "Ljava/util/function/BiFunction;" fm) (rfm : fm.isRef = true) (pf_E_st_ : Exa Z h0 st_ "java/lang/String") (pf_F_st__value : Fld Z h0 st_ "java/lang/String" "value" "[B" (.ref sv_)) (pf_F_st__coder : Fld Z h0 st_ "java/lang/String" "coder" "B" (.int 0)) (pf_A_sv_ : Av Z h0 sv_ .byte (2 : Int32) (own_vs [c0, c1]) (.int 0)) (hrA : ∀ c ∈ ([c0, c1] : List Int32), ¬ c < 0 ∧ ¬ (255 : Int32) < c) (pf_E_ob : Exa Z h0 ob "com/example/arbiter/arbiter/OrdinalTable") (pf_F_ob_slots : Fld Z h0 ob "com/example/arbiter/arbiter/OrdinalTable" "slots" "[I" (.ref sl)) (pf_F_ob_values : Fld Z h0 ob "com/example/arbiter/arbiter/OrdinalTable" "values" "[Ljava/lang/Object;" (.ref va)) (pf_F_ob_records : Fld Z h0 ob "com/example/arbiter/arbiter/OrdinalTable" "records" "[I" (.ref re)) (pf_A_sl : Av Z h0 sl .int 16 (own_cv SL) (.int 0)) (pf_L_va : Al Z h0 va (.object "java/lang/Object") (8 : Int32)) (pf_A_re : Av Z h0 re .int 64 (own_cv RL) (.int 0)) (hT : own_T1 SL RL ha_ ua_ na_ Oa_ wa_) (hu1 : 0 < ua_.toInt ∧ ua_.toInt < 20) (hn1 : 0 < na_.toInt ∧ na_.toInt < 5) :
    MetFree l MN34 (head1 (Jvm.Cond.code MN34 prog_25_method_18_code 7 (some .int) :: ws) (Room.mk 4 0 0 59)) (fun a U => a = #[(.ref ob), (.int hq_), (.ref st_), .null] ∧ Z.Warmed39 U.vm ∧ U.heap = h0) (fun _ _ _ _ _ => True) (fun _ U o U' => ∃ v L, o = .returned v ∧ Q_fi_2a Z ob sl va re SL RL hq_ ha_ ua_ na_ Oa_ wa_ st_ sv_ c0 c1 cs fm h0 n0 v U'.heap L ∧ FrameEnd U o U' L (Room.mk 4 0 0 59).cells (Room.mk 4 0 0 59).slots) := by
  refine MetFree.of_bodySF (plainFor_of_name pn_com_example_arbiter_arbiter_OrdinalTable) hisR ?_
  intro p e s m args below meth c s₁ Bd hml0 hP hK
  obtain ⟨rfl, hZ, hh⟩ := hP
  have hx := Bd.exec
  have hby := Bd.bytes
  have hml : c.maxLocals = 7 := hml0
  have hown : s.vm.findClass "com/example/arbiter/arbiter/OrdinalTable" = some m.cls := findClass_of_methodNamed Bd.named
  have hnm := (name_of_methodNamed Bd.named Bd.method).1
  have X0 : Stand p l e (Room.mk 4 0 0 59) s m #[(.ref ob), (.int hq_), (.ref st_), .null] below meth c s₁ [] 0 0 := Stand.of_body Bd
  have e0 : s₁.heap = h0 := by rw [← hh, Bd.state]; rfl
  have N0 := Fr.nil n0
  have pre0 : ∀ t, Steps p.tables e below (s₁.setTop (mkF m 0 #[rv ob, iv hq_, rv st_, .val .null, .unset, .unset, .unset] [])) t → Steps p.tables e below (s₁.setTop (entryFrame m #[(.ref ob), (.int hq_), (.ref st_), .null] 7)) t := fun t k => castTop (ef_fi_2a m ob hq_ st_) k
  have wo122 := hw _ (own_m 122 rfl)
  have wo123 := hw _ (own_m 123 rfl)
  have wo128 := hw _ (own_m 128 rfl)
  have wo132 := hw _ (own_m 132 rfl)
  have wo208 := hw _ (own_m 208 rfl)
  have wo209 := hw _ (own_m 209 rfl)
  have wo210 := hw _ (own_m 210 rfl)
  have wo211 := hw _ (own_m 211 rfl)
  obtain ⟨T1, X1, e1, st1⟩ := getF X0 hx hZ hown (host := "") (Or.inl wo132) Via.refl e0 pf_F_ob_values (g := (mkF m 1 #[rv ob, iv hq_, rv st_, .val .null, .unset, .unset, .unset] [(.ref ob)])) rfl rfl (hb hby d34_1)
  obtain ⟨cl2, Ar2, Sz2, Nn2⟩ := id pf_L_va
  have pre3 : ∀ t, Steps p.tables e below (T1.setTop (mkF m 15 #[rv ob, iv hq_, rv st_, .val .null, iv 7, iv (hq_ &&& 7), .unset] [])) t → Steps p.tables e below (s₁.setTop (entryFrame m #[(.ref ob), (.int hq_), (.ref st_), .null] 7)) t := by
    intro t_ k_
    refine pre0 _ ?_
    show Steps _ _ _ (State.setTop _ (mkF m 0 #[rv ob, iv hq_, rv st_, .val .null, .unset, .unset, .unset] [])) _
    refine XS.aloadN X0.here hx rfl (hb hby d34_0) rfl rfl ?_
    refine st1 _ ?_
    refine X1.arraylength hx (by rw [e1]; exact Ar2.1) (State.isArrayOf_alike hZ.alike Ar2.2.1) (g := (mkF m 4 #[rv ob, iv hq_, rv st_, .val .null, .unset, .unset, .unset] [(.ref va)])) rfl rfl (hb hby d34_4) _ ?_
    rw [len_of Sz2 Nn2]
    show Steps _ _ _ (State.setTop _ (mkF m 5 #[rv ob, iv hq_, rv st_, .val .null, .unset, .unset, .unset] [(.int 8)])) _
    refine XS.iconst X1.here hx rfl (hb hby d34_5) ?_
    refine XS.isub X1.here hx rfl (hb hby d34_6) rfl ?_
    refine XS.istore X1.here hx rfl (hb hby d34_7) rfl (l' := #[rv ob, iv hq_, rv st_, .val .null, iv 7, .unset, .unset]) rfl ?_
    refine XS.iloadN X1.here hx rfl (hb hby d34_9) rfl ?_
    refine XS.iload X1.here hx rfl (hb hby d34_10) rfl ?_
    refine XS.iand X1.here hx rfl (hb hby d34_12) rfl ?_
    show Steps _ _ _ (State.setTop _ (mkF m 13 #[rv ob, iv hq_, rv st_, .val .null, iv 7, .unset, .unset] [(.int (hq_ &&& 7))])) _
    refine XS.istore X1.here hx rfl (hb hby d34_13) rfl (l' := #[rv ob, iv hq_, rv st_, .val .null, iv 7, iv (hq_ &&& 7), .unset]) rfl ?_
    exact k_
  by_cases hb4 : (hq_ &&& 7) = (ha_ &&& 7)
  · skip
    obtain ⟨T5, X5, e5, st5⟩ := getF X1 hx hZ hown (host := "") (Or.inl wo128) Via.refl e1 pf_F_ob_slots (g := (mkF m 16 #[rv ob, iv hq_, rv st_, .val .null, iv 7, iv (hq_ &&& 7), .unset] [(.ref ob)])) rfl rfl (hb hby d34_16)
    obtain ⟨kk6, cl6, Ar6, qq6, Sz6, Nn6, Hs6, Gf6⟩ := id pf_A_sl
    have hin7 : ¬ ((((2 : Int32) * (hq_ &&& 7)) + 1) < 0 ∨ cl6.slots.size ≤ ((((2 : Int32) * (hq_ &&& 7)) + 1)).toNatClampNeg) := inb_of Sz6 (own_i1 (own_m7 _))
    have hat8 : cl6.slots[((((2 : Int32) * (hq_ &&& 7)) + 1)).toNatClampNeg]? = some (.int (own_g SL (((2 : Int32) * (hq_ &&& 7)) + 1))) := Has.at Hs6 hin7 (own_cvg _ _)
    have q9 : (own_g SL (((2 : Int32) * (hq_ &&& 7)) + 1)) = ua_ := by rw [hb4]; exact hT.2.2.2.1
    have hc10 : ¬ (ua_ = 0) := own_z0 hu1.1
    obtain ⟨T11, X11, e11, st11⟩ := getF X5 hx hZ hown (host := "") (Or.inl wo128) Via.refl e5 pf_F_ob_slots (g := (mkF m 34 #[rv ob, iv hq_, rv st_, .val .null, iv 7, iv (hq_ &&& 7), iv ua_] [(.ref ob)])) rfl rfl (hb hby d34_34)
    obtain ⟨kk12, cl12, Ar12, qq12, Sz12, Nn12, Hs12, Gf12⟩ := id pf_A_sl
    have hin13 : ¬ (((2 : Int32) * (hq_ &&& 7)) < 0 ∨ cl12.slots.size ≤ (((2 : Int32) * (hq_ &&& 7))).toNatClampNeg) := inb_of Sz12 (own_i0 (own_m7 _))
    have hat14 : cl12.slots[(((2 : Int32) * (hq_ &&& 7))).toNatClampNeg]? = some (.int (own_g SL ((2 : Int32) * (hq_ &&& 7)))) := Has.at Hs12 hin13 (own_cvg _ _)
    have pre16 : ∀ t, Steps p.tables e below (T11.setTop (mkF m 43 #[rv ob, iv hq_, rv st_, .val .null, iv 7, iv (hq_ &&& 7), iv ua_] [(.int hq_), (.int (own_g SL ((2 : Int32) * (hq_ &&& 7))))])) t → Steps p.tables e below (s₁.setTop (entryFrame m #[(.ref ob), (.int hq_), (.ref st_), .null] 7)) t := by
      intro t_ k_
      refine pre3 _ ?_
      refine XS.aloadN X1.here hx rfl (hb hby d34_15) rfl rfl ?_
      refine st5 _ ?_
      refine XS.iconst X5.here hx rfl (hb hby d34_19) ?_
      refine XS.iload X5.here hx rfl (hb hby d34_20) rfl ?_
      refine XS.imul X5.here hx rfl (hb hby d34_22) rfl ?_
      refine XS.iconst X5.here hx rfl (hb hby d34_23) ?_
      refine XS.iadd X5.here hx rfl (hb hby d34_24) rfl ?_
      refine X5.iaload hx (j := (((2 : Int32) * (hq_ &&& 7)) + 1)) (v := (.int (own_g SL (((2 : Int32) * (hq_ &&& 7)) + 1)))) (by rw [e5]; exact Ar6.1) (State.isArrayOf_alike hZ.alike Ar6.2.1) Ar6.2.2 hin7 hat8 (g := (mkF m 25 #[rv ob, iv hq_, rv st_, .val .null, iv 7, iv (hq_ &&& 7), .unset] [(.int (((2 : Int32) * (hq_ &&& 7)) + 1)), (.ref sl)])) rfl rfl (hb hby d34_25) _ ?_
      show Steps _ _ _ (State.setTop _ (mkF m 26 #[rv ob, iv hq_, rv st_, .val .null, iv 7, iv (hq_ &&& 7), .unset] [(.int (own_g SL (((2 : Int32) * (hq_ &&& 7)) + 1)))])) _
      refine XS.istore X5.here hx rfl (hb hby d34_26) rfl (l' := #[rv ob, iv hq_, rv st_, .val .null, iv 7, iv (hq_ &&& 7), iv (own_g SL (((2 : Int32) * (hq_ &&& 7)) + 1))]) rfl ?_
      show Steps _ _ _ (State.setTop _ (mkF m 28 #[rv ob, iv hq_, rv st_, .val .null, iv 7, iv (hq_ &&& 7), iv (own_g SL (((2 : Int32) * (hq_ &&& 7)) + 1))] [])) _
      rw [q9]
      show Steps _ _ _ (State.setTop _ (mkF m 28 #[rv ob, iv hq_, rv st_, .val .null, iv 7, iv (hq_ &&& 7), iv ua_] [])) _
      show Steps _ _ _ (State.setTop _ (mkF m 28 #[rv ob, iv hq_, rv st_, .val .null, iv 7, iv (hq_ &&& 7), iv ua_] [])) _
      refine XS.iload X5.here hx rfl (hb hby d34_28) rfl ?_
      refine XS.ifNo X5.here hx rfl (hb hby d34_30) rfl ((if0 _ _).trans (feq hc10).1) ?_
      refine XS.aloadN X5.here hx rfl (hb hby d34_33) rfl rfl ?_
      refine st11 _ ?_
      refine XS.iconst X11.here hx rfl (hb hby d34_37) ?_
      refine XS.iload X11.here hx rfl (hb hby d34_38) rfl ?_
      show Steps _ _ _ (State.setTop _ (mkF m 40 #[rv ob, iv hq_, rv st_, .val .null, iv 7, iv (hq_ &&& 7), iv ua_] [(.int (hq_ &&& 7)), (.int 2), (.ref sl)])) _
      refine XS.imul X11.here hx rfl (hb hby d34_40) rfl ?_
      refine X11.iaload hx (j := ((2 : Int32) * (hq_ &&& 7))) (v := (.int (own_g SL ((2 : Int32) * (hq_ &&& 7))))) (by rw [e11]; exact Ar12.1) (State.isArrayOf_alike hZ.alike Ar12.2.1) Ar12.2.2 hin13 hat14 (g := (mkF m 41 #[rv ob, iv hq_, rv st_, .val .null, iv 7, iv (hq_ &&& 7), iv ua_] [(.int ((2 : Int32) * (hq_ &&& 7))), (.ref sl)])) rfl rfl (hb hby d34_41) _ ?_
      refine XS.iloadN X11.here hx rfl (hb hby d34_42) rfl ?_
      exact k_
    by_cases hc43_15 : (own_g SL ((2 : Int32) * (hq_ &&& 7))) = hq_
    · skip
      obtain ⟨cq17, q17, q17'⟩ := pf_E_ob.cell
      obtain ⟨_, _, ⟨T17, L17, k17, n17⟩, -, X17, ⟨Lc17, hQ17, l17, y17, z17⟩, st17⟩ := X11.privateBack hx (y := MN42) hown (mvT hZ wo208) (mvT hZ wo209) (own_sel (Cond.privateMethod_at (mvP hZ wo210 (args := #[]))) (mvT hZ wo209) (mvT hZ wo122 (args := #[])) (by decide)) (Cond.privateMethod_at (mvP hZ wo210 (args := #[]))) (mvT hZ wo211) (by decide) (backOf (W := 0) (mm_2 l Z a0 hw [] ob re RL ua_ na_ Oa_ wa_ st_ sv_ c0 c1 cs fm h0 n0 Z0 pf_O pS_COMPAC hcs pS_SIOOBE rfm pf_E_st_ pf_F_st__value pf_F_st__coder pf_A_sv_ hrA pf_E_ob pf_F_ob_records pf_A_re hT.2.1 hu1 hn1 hT.2.2.2.2.2) hZ wo211 wo123 (by decide) (by decide)) (g := (mkF m 51 #[rv ob, iv hq_, rv st_, .val .null, iv 7, iv (hq_ &&& 7), iv ua_] [.null, (.ref st_), (.int ua_), (.ref ob)])) rfl (by rw [hml]; rfl) (Steps.refl _) (a := ob) (by rw [e11]; exact q17) q17' (argsL := [(.int ua_), (.ref st_), .null]) (rest := []) (lenOf pd_20 rfl) rfl (by show 2 * 0 + _ ≤ _; exact Nat.le_of_eq rfl) (hb hby d34_51) (fun _ _ => ⟨rfl, e11, (by decide : 0 + 0 ≤ _), (by decide : 0 + 0 ≤ _)⟩)
      dsimp only [Pt.U, Pt.locs, Pt.cells, Pt.slots] at X17 l17 y17 z17 st17 hQ17
      rw [l17, y17, z17] at X17
      obtain ⟨rfl, N17q, K17q⟩ := hQ17
      have N18 := Fr.app N0 N17q
      obtain ⟨T19, X19, e19, st19⟩ := getF X17 hx hZ hown (host := "") (Or.inl wo128) Via.refl K17q pf_F_ob_slots (g := (mkF m 70 #[rv ob, iv hq_, rv st_, .val .null, iv 7, iv (((hq_ &&& 7) + 1) &&& 7), iv ua_] [(.ref ob)])) rfl rfl (hb hby d34_70)
      obtain ⟨kk20, cl20, Ar20, qq20, Sz20, Nn20, Hs20, Gf20⟩ := id pf_A_sl
      have hin21 : ¬ ((((2 : Int32) * (((hq_ &&& 7) + 1) &&& 7)) + 1) < 0 ∨ cl20.slots.size ≤ ((((2 : Int32) * (((hq_ &&& 7) + 1) &&& 7)) + 1)).toNatClampNeg) := inb_of Sz20 (own_i1 (own_m7 _))
      have hat22 : cl20.slots[((((2 : Int32) * (((hq_ &&& 7) + 1) &&& 7)) + 1)).toNatClampNeg]? = some (.int (own_g SL (((2 : Int32) * (((hq_ &&& 7) + 1) &&& 7)) + 1))) := Has.at Hs20 hin21 (own_cvg _ _)
      have hc23 : (own_g SL (((2 : Int32) * (((hq_ &&& 7) + 1) &&& 7)) + 1)) = 0 := hT.2.2.2.2.1 _ (own_m7 _) (by rw [hb4]; exact own_nx (own_m7 _))
      obtain ⟨fs, hr, hrun, hended, hW, hsame⟩ := X19.leave (v := some (.int (-1 : Int32))) (fun h => by rw [Bd.returns] at h; cases h)
      refine ⟨_, _, pre16 _ ?_, hrun, hended, _, _, rfl, ?_, ⟨_, rfl⟩, hW, hsame.mono (by decide) (by decide)⟩
      · show Steps _ _ _ (State.setTop _ (mkF m 43 #[rv ob, iv hq_, rv st_, .val .null, iv 7, iv (hq_ &&& 7), iv ua_] [(.int hq_), (.int (own_g SL ((2 : Int32) * (hq_ &&& 7))))])) _
        refine XS.icmpNo X11.here hx rfl (hb hby d34_43) rfl (teq hc43_15).2 ?_
        refine XS.aloadN X11.here hx rfl (hb hby d34_46) rfl rfl ?_
        refine XS.iload X11.here hx rfl (hb hby d34_47) rfl ?_
        refine XS.aloadN X11.here hx rfl (hb hby d34_49) rfl rfl ?_
        refine XS.aloadN X11.here hx rfl (hb hby d34_50) rfl rfl ?_
        refine st17.trans ?_
        refine XS.ifYes X17.here hx rfl (pc0 := 54) (pc' := 60) rfl (hb hby d34_54) rfl ((if0 _ _).trans (teq (by decide : (0 : Int32) = 0)).1) (by decide) (by decide) ?_
        show Steps _ _ _ (State.setTop _ (mkF m 60 #[rv ob, iv hq_, rv st_, .val .null, iv 7, iv (hq_ &&& 7), iv ua_] [])) _
        refine XS.iload X17.here hx rfl (hb hby d34_60) rfl ?_
        refine XS.iconst X17.here hx rfl (hb hby d34_62) ?_
        refine XS.iadd X17.here hx rfl (hb hby d34_63) rfl ?_
        refine XS.iload X17.here hx rfl (hb hby d34_64) rfl ?_
        refine XS.iand X17.here hx rfl (hb hby d34_66) rfl ?_
        refine XS.istore X17.here hx rfl (hb hby d34_67) rfl (l' := #[rv ob, iv hq_, rv st_, .val .null, iv 7, iv (((hq_ &&& 7) + 1) &&& 7), iv ua_]) rfl ?_
        refine XS.aloadN X17.here hx rfl (hb hby d34_69) rfl rfl ?_
        refine st19 _ ?_
        refine XS.iconst X19.here hx rfl (hb hby d34_73) ?_
        show Steps _ _ _ (State.setTop _ (mkF m 74 #[rv ob, iv hq_, rv st_, .val .null, iv 7, iv (((hq_ &&& 7) + 1) &&& 7), iv ua_] [(.int 2), (.ref sl)])) _
        refine XS.iload X19.here hx rfl (hb hby d34_74) rfl ?_
        refine XS.imul X19.here hx rfl (hb hby d34_76) rfl ?_
        refine XS.iconst X19.here hx rfl (hb hby d34_77) ?_
        refine XS.iadd X19.here hx rfl (hb hby d34_78) rfl ?_
        refine X19.iaload hx (j := (((2 : Int32) * (((hq_ &&& 7) + 1) &&& 7)) + 1)) (v := (.int (own_g SL (((2 : Int32) * (((hq_ &&& 7) + 1) &&& 7)) + 1)))) (by rw [e19]; exact Ar20.1) (State.isArrayOf_alike hZ.alike Ar20.2.1) Ar20.2.2 hin21 hat22 (g := (mkF m 79 #[rv ob, iv hq_, rv st_, .val .null, iv 7, iv (((hq_ &&& 7) + 1) &&& 7), iv ua_] [(.int (((2 : Int32) * (((hq_ &&& 7) + 1) &&& 7)) + 1)), (.ref sl)])) rfl rfl (hb hby d34_79) _ ?_
        refine XS.istore X19.here hx rfl (hb hby d34_80) rfl (l' := #[rv ob, iv hq_, rv st_, .val .null, iv 7, iv (((hq_ &&& 7) + 1) &&& 7), iv (own_g SL (((2 : Int32) * (((hq_ &&& 7) + 1) &&& 7)) + 1))]) rfl ?_
        refine XS.goto X19.here hx rfl (pc0 := 82) (pc' := 28) rfl (hb hby d34_82) (by decide) (by decide) ?_
        refine XS.iload X19.here hx rfl (hb hby d34_28) rfl ?_
        refine XS.ifYes X19.here hx rfl (pc0 := 30) (pc' := 85) rfl (hb hby d34_30) rfl ((if0 _ _).trans (teq hc23).1) (by decide) (by decide) ?_
        show Steps _ _ _ (State.setTop _ (mkF m 85 #[rv ob, iv hq_, rv st_, .val .null, iv 7, iv (((hq_ &&& 7) + 1) &&& 7), iv (own_g SL (((2 : Int32) * (((hq_ &&& 7) + 1) &&& 7)) + 1))] [])) _
        refine XS.iconst X19.here hx rfl (hb hby d34_85) ?_
        show Steps _ _ _ (State.setTop _ (mkF m 86 #[rv ob, iv hq_, rv st_, .val .null, iv 7, iv (((hq_ &&& 7) + 1) &&& 7), iv (own_g SL (((2 : Int32) * (((hq_ &&& 7) + 1) &&& 7)) + 1))] [(.int (-1 : Int32))])) _
        exact retI X19 hx Bd.returns (hb hby d34_86) hr
      · show Q_fi_2a Z _ _ _ _ _ _ _ _ _ _ _ _ _ _ _ _ _ _ h0 n0 _ T19.heap _
        rw [e19]
        exact ⟨rfl, N18, rfl⟩
    · skip
      obtain ⟨T24, X24, e24, st24⟩ := getF X11 hx hZ hown (host := "") (Or.inl wo128) Via.refl e11 pf_F_ob_slots (g := (mkF m 70 #[rv ob, iv hq_, rv st_, .val .null, iv 7, iv (((hq_ &&& 7) + 1) &&& 7), iv ua_] [(.ref ob)])) rfl rfl (hb hby d34_70)
      obtain ⟨kk25, cl25, Ar25, qq25, Sz25, Nn25, Hs25, Gf25⟩ := id pf_A_sl
      have hin26 : ¬ ((((2 : Int32) * (((hq_ &&& 7) + 1) &&& 7)) + 1) < 0 ∨ cl25.slots.size ≤ ((((2 : Int32) * (((hq_ &&& 7) + 1) &&& 7)) + 1)).toNatClampNeg) := inb_of Sz25 (own_i1 (own_m7 _))
      have hat27 : cl25.slots[((((2 : Int32) * (((hq_ &&& 7) + 1) &&& 7)) + 1)).toNatClampNeg]? = some (.int (own_g SL (((2 : Int32) * (((hq_ &&& 7) + 1) &&& 7)) + 1))) := Has.at Hs25 hin26 (own_cvg _ _)
      have hc28 : (own_g SL (((2 : Int32) * (((hq_ &&& 7) + 1) &&& 7)) + 1)) = 0 := hT.2.2.2.2.1 _ (own_m7 _) (by rw [hb4]; exact own_nx (own_m7 _))
      obtain ⟨fs, hr, hrun, hended, hW, hsame⟩ := X24.leave (v := some (.int (-1 : Int32))) (fun h => by rw [Bd.returns] at h; cases h)
      refine ⟨_, _, pre16 _ ?_, hrun, hended, _, _, rfl, ?_, ⟨_, rfl⟩, hW, hsame.mono (by decide) (by decide)⟩
      · show Steps _ _ _ (State.setTop _ (mkF m 43 #[rv ob, iv hq_, rv st_, .val .null, iv 7, iv (hq_ &&& 7), iv ua_] [(.int hq_), (.int (own_g SL ((2 : Int32) * (hq_ &&& 7))))])) _
        refine XS.icmpYes X11.here hx rfl (pc0 := 43) (pc' := 60) rfl (hb hby d34_43) rfl (feq hc43_15).2 (by decide) (by decide) ?_
        refine XS.iload X11.here hx rfl (hb hby d34_60) rfl ?_
        refine XS.iconst X11.here hx rfl (hb hby d34_62) ?_
        refine XS.iadd X11.here hx rfl (hb hby d34_63) rfl ?_
        refine XS.iload X11.here hx rfl (hb hby d34_64) rfl ?_
        refine XS.iand X11.here hx rfl (hb hby d34_66) rfl ?_
        refine XS.istore X11.here hx rfl (hb hby d34_67) rfl (l' := #[rv ob, iv hq_, rv st_, .val .null, iv 7, iv (((hq_ &&& 7) + 1) &&& 7), iv ua_]) rfl ?_
        refine XS.aloadN X11.here hx rfl (hb hby d34_69) rfl rfl ?_
        show Steps _ _ _ (State.setTop _ (mkF m 70 #[rv ob, iv hq_, rv st_, .val .null, iv 7, iv (((hq_ &&& 7) + 1) &&& 7), iv ua_] [(.ref ob)])) _
        refine st24 _ ?_
        refine XS.iconst X24.here hx rfl (hb hby d34_73) ?_
        refine XS.iload X24.here hx rfl (hb hby d34_74) rfl ?_
        refine XS.imul X24.here hx rfl (hb hby d34_76) rfl ?_
        refine XS.iconst X24.here hx rfl (hb hby d34_77) ?_
        refine XS.iadd X24.here hx rfl (hb hby d34_78) rfl ?_
        refine X24.iaload hx (j := (((2 : Int32) * (((hq_ &&& 7) + 1) &&& 7)) + 1)) (v := (.int (own_g SL (((2 : Int32) * (((hq_ &&& 7) + 1) &&& 7)) + 1)))) (by rw [e24]; exact Ar25.1) (State.isArrayOf_alike hZ.alike Ar25.2.1) Ar25.2.2 hin26 hat27 (g := (mkF m 79 #[rv ob, iv hq_, rv st_, .val .null, iv 7, iv (((hq_ &&& 7) + 1) &&& 7), iv ua_] [(.int (((2 : Int32) * (((hq_ &&& 7) + 1) &&& 7)) + 1)), (.ref sl)])) rfl rfl (hb hby d34_79) _ ?_
        refine XS.istore X24.here hx rfl (hb hby d34_80) rfl (l' := #[rv ob, iv hq_, rv st_, .val .null, iv 7, iv (((hq_ &&& 7) + 1) &&& 7), iv (own_g SL (((2 : Int32) * (((hq_ &&& 7) + 1) &&& 7)) + 1))]) rfl ?_
        refine XS.goto X24.here hx rfl (pc0 := 82) (pc' := 28) rfl (hb hby d34_82) (by decide) (by decide) ?_
        show Steps _ _ _ (State.setTop _ (mkF m 28 #[rv ob, iv hq_, rv st_, .val .null, iv 7, iv (((hq_ &&& 7) + 1) &&& 7), iv (own_g SL (((2 : Int32) * (((hq_ &&& 7) + 1) &&& 7)) + 1))] [])) _
        refine XS.iload X24.here hx rfl (hb hby d34_28) rfl ?_
        refine XS.ifYes X24.here hx rfl (pc0 := 30) (pc' := 85) rfl (hb hby d34_30) rfl ((if0 _ _).trans (teq hc28).1) (by decide) (by decide) ?_
        refine XS.iconst X24.here hx rfl (hb hby d34_85) ?_
        show Steps _ _ _ (State.setTop _ (mkF m 86 #[rv ob, iv hq_, rv st_, .val .null, iv 7, iv (((hq_ &&& 7) + 1) &&& 7), iv (own_g SL (((2 : Int32) * (((hq_ &&& 7) + 1) &&& 7)) + 1))] [(.int (-1 : Int32))])) _
        exact retI X24 hx Bd.returns (hb hby d34_86) hr
      · show Q_fi_2a Z _ _ _ _ _ _ _ _ _ _ _ _ _ _ _ _ _ _ h0 n0 _ T24.heap _
        rw [e24]
        exact ⟨rfl, N0, rfl⟩
  · skip
    obtain ⟨T29, X29, e29, st29⟩ := getF X1 hx hZ hown (host := "") (Or.inl wo128) Via.refl e1 pf_F_ob_slots (g := (mkF m 16 #[rv ob, iv hq_, rv st_, .val .null, iv 7, iv (hq_ &&& 7), .unset] [(.ref ob)])) rfl rfl (hb hby d34_16)
    obtain ⟨kk30, cl30, Ar30, qq30, Sz30, Nn30, Hs30, Gf30⟩ := id pf_A_sl
    have hin31 : ¬ ((((2 : Int32) * (hq_ &&& 7)) + 1) < 0 ∨ cl30.slots.size ≤ ((((2 : Int32) * (hq_ &&& 7)) + 1)).toNatClampNeg) := inb_of Sz30 (own_i1 (own_m7 _))
    have hat32 : cl30.slots[((((2 : Int32) * (hq_ &&& 7)) + 1)).toNatClampNeg]? = some (.int (own_g SL (((2 : Int32) * (hq_ &&& 7)) + 1))) := Has.at Hs30 hin31 (own_cvg _ _)
    have hc33 : (own_g SL (((2 : Int32) * (hq_ &&& 7)) + 1)) = 0 := hT.2.2.2.2.1 _ (own_m7 _) hb4
    obtain ⟨fs, hr, hrun, hended, hW, hsame⟩ := X29.leave (v := some (.int (-1 : Int32))) (fun h => by rw [Bd.returns] at h; cases h)
    refine ⟨_, _, pre3 _ ?_, hrun, hended, _, _, rfl, ?_, ⟨_, rfl⟩, hW, hsame.mono (by decide) (by decide)⟩
    · show Steps _ _ _ (State.setTop _ (mkF m 15 #[rv ob, iv hq_, rv st_, .val .null, iv 7, iv (hq_ &&& 7), .unset] [])) _
      refine XS.aloadN X1.here hx rfl (hb hby d34_15) rfl rfl ?_
      refine st29 _ ?_
      refine XS.iconst X29.here hx rfl (hb hby d34_19) ?_
      refine XS.iload X29.here hx rfl (hb hby d34_20) rfl ?_
      refine XS.imul X29.here hx rfl (hb hby d34_22) rfl ?_
      refine XS.iconst X29.here hx rfl (hb hby d34_23) ?_
      show Steps _ _ _ (State.setTop _ (mkF m 24 #[rv ob, iv hq_, rv st_, .val .null, iv 7, iv (hq_ &&& 7), .unset] [(.int 1), (.int ((2 : Int32) * (hq_ &&& 7))), (.ref sl)])) _
      refine XS.iadd X29.here hx rfl (hb hby d34_24) rfl ?_
      refine X29.iaload hx (j := (((2 : Int32) * (hq_ &&& 7)) + 1)) (v := (.int (own_g SL (((2 : Int32) * (hq_ &&& 7)) + 1)))) (by rw [e29]; exact Ar30.1) (State.isArrayOf_alike hZ.alike Ar30.2.1) Ar30.2.2 hin31 hat32 (g := (mkF m 25 #[rv ob, iv hq_, rv st_, .val .null, iv 7, iv (hq_ &&& 7), .unset] [(.int (((2 : Int32) * (hq_ &&& 7)) + 1)), (.ref sl)])) rfl rfl (hb hby d34_25) _ ?_
      refine XS.istore X29.here hx rfl (hb hby d34_26) rfl (l' := #[rv ob, iv hq_, rv st_, .val .null, iv 7, iv (hq_ &&& 7), iv (own_g SL (((2 : Int32) * (hq_ &&& 7)) + 1))]) rfl ?_
      refine XS.iload X29.here hx rfl (hb hby d34_28) rfl ?_
      refine XS.ifYes X29.here hx rfl (pc0 := 30) (pc' := 85) rfl (hb hby d34_30) rfl ((if0 _ _).trans (teq hc33).1) (by decide) (by decide) ?_
      refine XS.iconst X29.here hx rfl (hb hby d34_85) ?_
      show Steps _ _ _ (State.setTop _ (mkF m 86 #[rv ob, iv hq_, rv st_, .val .null, iv 7, iv (hq_ &&& 7), iv (own_g SL (((2 : Int32) * (hq_ &&& 7)) + 1))] [(.int (-1 : Int32))])) _
      exact retI X29 hx Bd.returns (hb hby d34_86) hr
    · show Q_fi_2a Z _ _ _ _ _ _ _ _ _ _ _ _ _ _ _ _ _ _ h0 n0 _ T29.heap _
      rw [e29]
      exact ⟨rfl, N0, rfl⟩
theorem d34_57 : decode prog_25_method_18_code 57 = .ok (.iload 5, 2) := by decide +kernel
theorem d34_59 : decode prog_25_method_18_code 59 = .ok (.ireturn, 1) := by decide +kernel
theorem ef_fi_1h (m : MethodId) (x0 : Addr) (x1 : Int32) (x2 : Addr) : entryFrame m #[(.ref x0), (.int x1), (.ref x2), .null] 7 = mkF m 0 #[rv x0, iv x1, rv x2, .val .null, .unset, .unset, .unset] [] := by first | (simp [entryFrame, mkF, argsToLocals, Value.category]; done) | rfl
def Q_fi_1h (Z : State) (ob sl va re : Addr) (SL RL : List Int32) (hq_ ua_ na_ : Int32) (Oa_ : List Int32) (hb_ ub_ nb_ : Int32) (Ob_ : List Int32) (wb_ : Int32) (st_ sv_ : Addr) (c0 cs : Int32) (fm : Value) (h0 : Heap) (n0 : Nat) (v : Option Value) (h : Heap) (L : List Loc) : Prop := v = some (.int (hq_ &&& 7)) ∧ Fr n0 L ∧ h = h0
set_option maxRecDepth 65536 in
set_option maxHeartbeats 40000000 in
theorem fi_1h (l : Launch) (Z : State) (a0 : Array Value) (hw : ∀ d ∈ tables_1, d.before a0 Z = true) (ws : List Jvm.Cond) (ob sl va re : Addr) (SL RL : List Int32) (hq_ ua_ na_ : Int32) (Oa_ : List Int32) (hb_ ub_ nb_ : Int32) (Ob_ : List Int32) (wb_ : Int32) (st_ sv_ : Addr) (c0 cs : Int32) (fm : Value) (h0 : Heap) (n0 : Nat) (Z0 : n0 ≤ h0.size) (pf_O : Old Z n0 h0) (pS_COMPAC : Sta Z Z.heap "java/lang/String" "COMPACT_STRINGS" "Z" (.int cs)) (hcs : ¬ (cs = 0)) (pS_SIOOBE : Sta Z Z.heap "jdk/internal/util/Preconditions" "SIOOBE_FORMATTER" "Ljava/util/function/BiFunction;" fm) (rfm : fm.isRef = true) (pf_E_st_ : Exa Z h0 st_ "java/lang/String") (pf_F_st__value : Fld Z h0 st_ "java/lang/String" "value" "[B" (.ref sv_)) (pf_F_st__coder : Fld Z h0 st_ "java/lang/String" "coder" "B" (.int 0)) (pf_A_sv_ : Av Z h0 sv_ .byte (1 : Int32) (own_vs [c0]) (.int 0)) (hrA : ∀ c ∈ ([c0] : List Int32), ¬ c < 0 ∧ ¬ (255 : Int32) < c) (pf_E_ob : Exa Z h0 ob "com/example/arbiter/arbiter/OrdinalTable") (pf_F_ob_slots : Fld Z h0 ob "com/example/arbiter/arbiter/OrdinalTable" "slots" "[I" (.ref sl)) (pf_F_ob_values : Fld Z h0 ob "com/example/arbiter/arbiter/OrdinalTable" "values" "[Ljava/lang/Object;" (.ref va)) (pf_F_ob_records : Fld Z h0 ob "com/example/arbiter/arbiter/OrdinalTable" "records" "[I" (.ref re)) (pf_A_sl : Av Z h0 sl .int 16 (own_cv SL) (.int 0)) (pf_L_va : Al Z h0 va (.object "java/lang/Object") (8 : Int32)) (pf_A_re : Av Z h0 re .int 64 (own_cv RL) (.int 0)) (hT : own_T2 SL RL hq_ ua_ na_ Oa_ c0 hb_ ub_ nb_ Ob_ wb_) (hu1 : 0 < ua_.toInt ∧ ua_.toInt < 20) (hn1 : 0 < na_.toInt ∧ na_.toInt < 5) :
    MetFree l MN34 (head1 (Jvm.Cond.code MN34 prog_25_method_18_code 7 (some .int) :: ws) (Room.mk 7 0 0 102)) (fun a U => a = #[(.ref ob), (.int hq_), (.ref st_), .null] ∧ Z.Warmed39 U.vm ∧ U.heap = h0) (fun _ _ _ _ _ => True) (fun _ U o U' => ∃ v L, o = .returned v ∧ Q_fi_1h Z ob sl va re SL RL hq_ ua_ na_ Oa_ hb_ ub_ nb_ Ob_ wb_ st_ sv_ c0 cs fm h0 n0 v U'.heap L ∧ FrameEnd U o U' L (Room.mk 7 0 0 102).cells (Room.mk 7 0 0 102).slots) := by
  refine MetFree.of_bodySF (plainFor_of_name pn_com_example_arbiter_arbiter_OrdinalTable) hisR ?_
  intro p e s m args below meth c s₁ Bd hml0 hP hK
  obtain ⟨rfl, hZ, hh⟩ := hP
  have hx := Bd.exec
  have hby := Bd.bytes
  have hml : c.maxLocals = 7 := hml0
  have hown : s.vm.findClass "com/example/arbiter/arbiter/OrdinalTable" = some m.cls := findClass_of_methodNamed Bd.named
  have hnm := (name_of_methodNamed Bd.named Bd.method).1
  have X0 : Stand p l e (Room.mk 7 0 0 102) s m #[(.ref ob), (.int hq_), (.ref st_), .null] below meth c s₁ [] 0 0 := Stand.of_body Bd
  have e0 : s₁.heap = h0 := by rw [← hh, Bd.state]; rfl
  have N0 := Fr.nil n0
  have pre0 : ∀ t, Steps p.tables e below (s₁.setTop (mkF m 0 #[rv ob, iv hq_, rv st_, .val .null, .unset, .unset, .unset] [])) t → Steps p.tables e below (s₁.setTop (entryFrame m #[(.ref ob), (.int hq_), (.ref st_), .null] 7)) t := fun t k => castTop (ef_fi_1h m ob hq_ st_) k
  have wo122 := hw _ (own_m 122 rfl)
  have wo123 := hw _ (own_m 123 rfl)
  have wo128 := hw _ (own_m 128 rfl)
  have wo132 := hw _ (own_m 132 rfl)
  have wo208 := hw _ (own_m 208 rfl)
  have wo209 := hw _ (own_m 209 rfl)
  have wo210 := hw _ (own_m 210 rfl)
  have wo211 := hw _ (own_m 211 rfl)
  obtain ⟨T1, X1, e1, st1⟩ := getF X0 hx hZ hown (host := "") (Or.inl wo132) Via.refl e0 pf_F_ob_values (g := (mkF m 1 #[rv ob, iv hq_, rv st_, .val .null, .unset, .unset, .unset] [(.ref ob)])) rfl rfl (hb hby d34_1)
  obtain ⟨cl2, Ar2, Sz2, Nn2⟩ := id pf_L_va
  obtain ⟨T3, X3, e3, st3⟩ := getF X1 hx hZ hown (host := "") (Or.inl wo128) Via.refl e1 pf_F_ob_slots (g := (mkF m 16 #[rv ob, iv hq_, rv st_, .val .null, iv 7, iv (hq_ &&& 7), .unset] [(.ref ob)])) rfl rfl (hb hby d34_16)
  obtain ⟨kk4, cl4, Ar4, qq4, Sz4, Nn4, Hs4, Gf4⟩ := id pf_A_sl
  have hin5 : ¬ ((((2 : Int32) * (hq_ &&& 7)) + 1) < 0 ∨ cl4.slots.size ≤ ((((2 : Int32) * (hq_ &&& 7)) + 1)).toNatClampNeg) := inb_of Sz4 (own_i1 (own_m7 _))
  have hat6 : cl4.slots[((((2 : Int32) * (hq_ &&& 7)) + 1)).toNatClampNeg]? = some (.int (own_g SL (((2 : Int32) * (hq_ &&& 7)) + 1))) := Has.at Hs4 hin5 (own_cvg _ _)
  have q7 : (own_g SL (((2 : Int32) * (hq_ &&& 7)) + 1)) = ua_ := hT.2.2.2.1
  have hc8 : ¬ (ua_ = 0) := own_z0 hu1.1
  obtain ⟨T9, X9, e9, st9⟩ := getF X3 hx hZ hown (host := "") (Or.inl wo128) Via.refl e3 pf_F_ob_slots (g := (mkF m 34 #[rv ob, iv hq_, rv st_, .val .null, iv 7, iv (hq_ &&& 7), iv ua_] [(.ref ob)])) rfl rfl (hb hby d34_34)
  obtain ⟨kk10, cl10, Ar10, qq10, Sz10, Nn10, Hs10, Gf10⟩ := id pf_A_sl
  have hin11 : ¬ (((2 : Int32) * (hq_ &&& 7)) < 0 ∨ cl10.slots.size ≤ (((2 : Int32) * (hq_ &&& 7))).toNatClampNeg) := inb_of Sz10 (own_i0 (own_m7 _))
  have hat12 : cl10.slots[(((2 : Int32) * (hq_ &&& 7))).toNatClampNeg]? = some (.int (own_g SL ((2 : Int32) * (hq_ &&& 7)))) := Has.at Hs10 hin11 (own_cvg _ _)
  have hc13 : (own_g SL ((2 : Int32) * (hq_ &&& 7))) = hq_ := hT.2.2.1
  obtain ⟨cq14, q14, q14'⟩ := pf_E_ob.cell
  obtain ⟨_, _, ⟨T14, L14, k14, n14⟩, -, X14, ⟨Lc14, hQ14, l14, y14, z14⟩, st14⟩ := X9.privateBack hx (y := MN42) hown (mvT hZ wo208) (mvT hZ wo209) (own_sel (Cond.privateMethod_at (mvP hZ wo210 (args := #[]))) (mvT hZ wo209) (mvT hZ wo122 (args := #[])) (by decide)) (Cond.privateMethod_at (mvP hZ wo210 (args := #[]))) (mvT hZ wo211) (by decide) (backOf (W := 0) (mh_1 l Z a0 hw [] ob re RL ua_ na_ Oa_ st_ sv_ c0 cs fm h0 n0 Z0 pf_O pS_COMPAC hcs pS_SIOOBE rfm pf_E_st_ pf_F_st__value pf_F_st__coder pf_A_sv_ hrA pf_E_ob pf_F_ob_records pf_A_re hT.2.1 hu1 hn1 hT.2.2.2.2.1) hZ wo211 wo123 (by decide) (by decide)) (g := (mkF m 51 #[rv ob, iv hq_, rv st_, .val .null, iv 7, iv (hq_ &&& 7), iv ua_] [.null, (.ref st_), (.int ua_), (.ref ob)])) rfl (by rw [hml]; rfl) (Steps.refl _) (a := ob) (by rw [e9]; exact q14) q14' (argsL := [(.int ua_), (.ref st_), .null]) (rest := []) (lenOf pd_20 rfl) rfl (by show 2 * 0 + _ ≤ _; exact Nat.le_of_eq rfl) (hb hby d34_51) (fun _ _ => ⟨rfl, e9, (by decide : 0 + 0 ≤ _), (by decide : 0 + 0 ≤ _)⟩)
  dsimp only [Pt.U, Pt.locs, Pt.cells, Pt.slots] at X14 l14 y14 z14 st14 hQ14
  rw [l14, y14, z14] at X14
  obtain ⟨rfl, N14q, K14q⟩ := hQ14
  have N15 := Fr.app N0 N14q
  obtain ⟨fs, hr, hrun, hended, hW, hsame⟩ := X14.leave (v := some (.int (hq_ &&& 7))) (fun h => by rw [Bd.returns] at h; cases h)
  refine ⟨_, _, pre0 _ ?_, hrun, hended, _, _, rfl, ?_, ⟨_, rfl⟩, hW, hsame.mono (by decide) (by decide)⟩
  · show Steps _ _ _ (State.setTop _ (mkF m 0 #[rv ob, iv hq_, rv st_, .val .null, .unset, .unset, .unset] [])) _
    refine XS.aloadN X0.here hx rfl (hb hby d34_0) rfl rfl ?_
    show Steps _ _ _ (State.setTop _ (mkF m 1 #[rv ob, iv hq_, rv st_, .val .null, .unset, .unset, .unset] [(.ref ob)])) _
    refine st1 _ ?_
    refine X1.arraylength hx (by rw [e1]; exact Ar2.1) (State.isArrayOf_alike hZ.alike Ar2.2.1) (g := (mkF m 4 #[rv ob, iv hq_, rv st_, .val .null, .unset, .unset, .unset] [(.ref va)])) rfl rfl (hb hby d34_4) _ ?_
    rw [len_of Sz2 Nn2]
    show Steps _ _ _ (State.setTop _ (mkF m 5 #[rv ob, iv hq_, rv st_, .val .null, .unset, .unset, .unset] [(.int 8)])) _
    refine XS.iconst X1.here hx rfl (hb hby d34_5) ?_
    refine XS.isub X1.here hx rfl (hb hby d34_6) rfl ?_
    refine XS.istore X1.here hx rfl (hb hby d34_7) rfl (l' := #[rv ob, iv hq_, rv st_, .val .null, iv 7, .unset, .unset]) rfl ?_
    refine XS.iloadN X1.here hx rfl (hb hby d34_9) rfl ?_
    refine XS.iload X1.here hx rfl (hb hby d34_10) rfl ?_
    refine XS.iand X1.here hx rfl (hb hby d34_12) rfl ?_
    refine XS.istore X1.here hx rfl (hb hby d34_13) rfl (l' := #[rv ob, iv hq_, rv st_, .val .null, iv 7, iv (hq_ &&& 7), .unset]) rfl ?_
    show Steps _ _ _ (State.setTop _ (mkF m 15 #[rv ob, iv hq_, rv st_, .val .null, iv 7, iv (hq_ &&& 7), .unset] [])) _
    refine XS.aloadN X1.here hx rfl (hb hby d34_15) rfl rfl ?_
    refine st3 _ ?_
    refine XS.iconst X3.here hx rfl (hb hby d34_19) ?_
    refine XS.iload X3.here hx rfl (hb hby d34_20) rfl ?_
    refine XS.imul X3.here hx rfl (hb hby d34_22) rfl ?_
    refine XS.iconst X3.here hx rfl (hb hby d34_23) ?_
    refine XS.iadd X3.here hx rfl (hb hby d34_24) rfl ?_
    refine X3.iaload hx (j := (((2 : Int32) * (hq_ &&& 7)) + 1)) (v := (.int (own_g SL (((2 : Int32) * (hq_ &&& 7)) + 1)))) (by rw [e3]; exact Ar4.1) (State.isArrayOf_alike hZ.alike Ar4.2.1) Ar4.2.2 hin5 hat6 (g := (mkF m 25 #[rv ob, iv hq_, rv st_, .val .null, iv 7, iv (hq_ &&& 7), .unset] [(.int (((2 : Int32) * (hq_ &&& 7)) + 1)), (.ref sl)])) rfl rfl (hb hby d34_25) _ ?_
    refine XS.istore X3.here hx rfl (hb hby d34_26) rfl (l' := #[rv ob, iv hq_, rv st_, .val .null, iv 7, iv (hq_ &&& 7), iv (own_g SL (((2 : Int32) * (hq_ &&& 7)) + 1))]) rfl ?_
    show Steps _ _ _ (State.setTop _ (mkF m 28 #[rv ob, iv hq_, rv st_, .val .null, iv 7, iv (hq_ &&& 7), iv (own_g SL (((2 : Int32) * (hq_ &&& 7)) + 1))] [])) _
    rw [q7]
    show Steps _ _ _ (State.setTop _ (mkF m 28 #[rv ob, iv hq_, rv st_, .val .null, iv 7, iv (hq_ &&& 7), iv ua_] [])) _
    show Steps _ _ _ (State.setTop _ (mkF m 28 #[rv ob, iv hq_, rv st_, .val .null, iv 7, iv (hq_ &&& 7), iv ua_] [])) _
    refine XS.iload X3.here hx rfl (hb hby d34_28) rfl ?_
    refine XS.ifNo X3.here hx rfl (hb hby d34_30) rfl ((if0 _ _).trans (feq hc8).1) ?_
    refine XS.aloadN X3.here hx rfl (hb hby d34_33) rfl rfl ?_
    refine st9 _ ?_
    refine XS.iconst X9.here hx rfl (hb hby d34_37) ?_
    refine XS.iload X9.here hx rfl (hb hby d34_38) rfl ?_
    refine XS.imul X9.here hx rfl (hb hby d34_40) rfl ?_
    show Steps _ _ _ (State.setTop _ (mkF m 41 #[rv ob, iv hq_, rv st_, .val .null, iv 7, iv (hq_ &&& 7), iv ua_] [(.int ((2 : Int32) * (hq_ &&& 7))), (.ref sl)])) _
    refine X9.iaload hx (j := ((2 : Int32) * (hq_ &&& 7))) (v := (.int (own_g SL ((2 : Int32) * (hq_ &&& 7))))) (by rw [e9]; exact Ar10.1) (State.isArrayOf_alike hZ.alike Ar10.2.1) Ar10.2.2 hin11 hat12 (g := (mkF m 41 #[rv ob, iv hq_, rv st_, .val .null, iv 7, iv (hq_ &&& 7), iv ua_] [(.int ((2 : Int32) * (hq_ &&& 7))), (.ref sl)])) rfl rfl (hb hby d34_41) _ ?_
    refine XS.iloadN X9.here hx rfl (hb hby d34_42) rfl ?_
    refine XS.icmpNo X9.here hx rfl (hb hby d34_43) rfl (teq hc13).2 ?_
    refine XS.aloadN X9.here hx rfl (hb hby d34_46) rfl rfl ?_
    refine XS.iload X9.here hx rfl (hb hby d34_47) rfl ?_
    refine XS.aloadN X9.here hx rfl (hb hby d34_49) rfl rfl ?_
    refine XS.aloadN X9.here hx rfl (hb hby d34_50) rfl rfl ?_
    refine st14.trans ?_
    refine XS.ifNo X14.here hx rfl (hb hby d34_54) rfl ((if0 _ _).trans (feq (by decide : ¬ ((1 : Int32) = 0))).1) ?_
    show Steps _ _ _ (State.setTop _ (mkF m 57 #[rv ob, iv hq_, rv st_, .val .null, iv 7, iv (hq_ &&& 7), iv ua_] [])) _
    refine XS.iload X14.here hx rfl (hb hby d34_57) rfl ?_
    show Steps _ _ _ (State.setTop _ (mkF m 59 #[rv ob, iv hq_, rv st_, .val .null, iv 7, iv (hq_ &&& 7), iv ua_] [(.int (hq_ &&& 7))])) _
    exact retI X14 hx Bd.returns (hb hby d34_59) hr
  · show Q_fi_1h Z _ _ _ _ _ _ _ _ _ _ _ _ _ _ _ _ _ _ _ _ h0 n0 _ T14.heap _
    rw [K14q]
    exact ⟨rfl, N15, rfl⟩
theorem ef_fi_2h (m : MethodId) (x0 : Addr) (x1 : Int32) (x2 : Addr) : entryFrame m #[(.ref x0), (.int x1), (.ref x2), .null] 7 = mkF m 0 #[rv x0, iv x1, rv x2, .val .null, .unset, .unset, .unset] [] := by first | (simp [entryFrame, mkF, argsToLocals, Value.category]; done) | rfl
def Q_fi_2h (Z : State) (ob sl va re : Addr) (SL RL : List Int32) (hq_ ha_ ua_ na_ : Int32) (Oa_ : List Int32) (wa_ ub_ nb_ : Int32) (Ob_ : List Int32) (st_ sv_ : Addr) (c0 c1 cs : Int32) (fm : Value) (h0 : Heap) (n0 : Nat) (v : Option Value) (h : Heap) (L : List Loc) : Prop := v = some (.int (own_sl2 hq_ (ha_ &&& 7))) ∧ Fr n0 L ∧ h = h0
set_option maxRecDepth 65536 in
set_option maxHeartbeats 40000000 in
theorem fi_2h (l : Launch) (Z : State) (a0 : Array Value) (hw : ∀ d ∈ tables_1, d.before a0 Z = true) (ws : List Jvm.Cond) (ob sl va re : Addr) (SL RL : List Int32) (hq_ ha_ ua_ na_ : Int32) (Oa_ : List Int32) (wa_ ub_ nb_ : Int32) (Ob_ : List Int32) (st_ sv_ : Addr) (c0 c1 cs : Int32) (fm : Value) (h0 : Heap) (n0 : Nat) (Z0 : n0 ≤ h0.size) (pf_O : Old Z n0 h0) (pS_COMPAC : Sta Z Z.heap "java/lang/String" "COMPACT_STRINGS" "Z" (.int cs)) (hcs : ¬ (cs = 0)) (pS_SIOOBE : Sta Z Z.heap "jdk/internal/util/Preconditions" "SIOOBE_FORMATTER" "Ljava/util/function/BiFunction;" fm) (rfm : fm.isRef = true) (pf_E_st_ : Exa Z h0 st_ "java/lang/String") (pf_F_st__value : Fld Z h0 st_ "java/lang/String" "value" "[B" (.ref sv_)) (pf_F_st__coder : Fld Z h0 st_ "java/lang/String" "coder" "B" (.int 0)) (pf_A_sv_ : Av Z h0 sv_ .byte (2 : Int32) (own_vs [c0, c1]) (.int 0)) (hrA : ∀ c ∈ ([c0, c1] : List Int32), ¬ c < 0 ∧ ¬ (255 : Int32) < c) (pf_E_ob : Exa Z h0 ob "com/example/arbiter/arbiter/OrdinalTable") (pf_F_ob_slots : Fld Z h0 ob "com/example/arbiter/arbiter/OrdinalTable" "slots" "[I" (.ref sl)) (pf_F_ob_values : Fld Z h0 ob "com/example/arbiter/arbiter/OrdinalTable" "values" "[Ljava/lang/Object;" (.ref va)) (pf_F_ob_records : Fld Z h0 ob "com/example/arbiter/arbiter/OrdinalTable" "records" "[I" (.ref re)) (pf_A_sl : Av Z h0 sl .int 16 (own_cv SL) (.int 0)) (pf_L_va : Al Z h0 va (.object "java/lang/Object") (8 : Int32)) (pf_A_re : Av Z h0 re .int 64 (own_cv RL) (.int 0)) (hT : own_T2 SL RL ha_ ua_ na_ Oa_ wa_ hq_ ub_ nb_ Ob_ (c0 ||| (c1 <<< ((16 : Int32) &&& 31)))) (hu1 : 0 < ua_.toInt ∧ ua_.toInt < 20) (hn1 : 0 < na_.toInt ∧ na_.toInt < 5) (hu2 : 0 < ub_.toInt ∧ ub_.toInt < 20) (hn2 : 0 < nb_.toInt ∧ nb_.toInt < 5) :
    MetFree l MN34 (head1 (Jvm.Cond.code MN34 prog_25_method_18_code 7 (some .int) :: ws) (Room.mk 7 0 0 103)) (fun a U => a = #[(.ref ob), (.int hq_), (.ref st_), .null] ∧ Z.Warmed39 U.vm ∧ U.heap = h0) (fun _ _ _ _ _ => True) (fun _ U o U' => ∃ v L, o = .returned v ∧ Q_fi_2h Z ob sl va re SL RL hq_ ha_ ua_ na_ Oa_ wa_ ub_ nb_ Ob_ st_ sv_ c0 c1 cs fm h0 n0 v U'.heap L ∧ FrameEnd U o U' L (Room.mk 7 0 0 103).cells (Room.mk 7 0 0 103).slots) := by
  refine MetFree.of_bodySF (plainFor_of_name pn_com_example_arbiter_arbiter_OrdinalTable) hisR ?_
  intro p e s m args below meth c s₁ Bd hml0 hP hK
  obtain ⟨rfl, hZ, hh⟩ := hP
  have hx := Bd.exec
  have hby := Bd.bytes
  have hml : c.maxLocals = 7 := hml0
  have hown : s.vm.findClass "com/example/arbiter/arbiter/OrdinalTable" = some m.cls := findClass_of_methodNamed Bd.named
  have hnm := (name_of_methodNamed Bd.named Bd.method).1
  have X0 : Stand p l e (Room.mk 7 0 0 103) s m #[(.ref ob), (.int hq_), (.ref st_), .null] below meth c s₁ [] 0 0 := Stand.of_body Bd
  have e0 : s₁.heap = h0 := by rw [← hh, Bd.state]; rfl
  have N0 := Fr.nil n0
  have pre0 : ∀ t, Steps p.tables e below (s₁.setTop (mkF m 0 #[rv ob, iv hq_, rv st_, .val .null, .unset, .unset, .unset] [])) t → Steps p.tables e below (s₁.setTop (entryFrame m #[(.ref ob), (.int hq_), (.ref st_), .null] 7)) t := fun t k => castTop (ef_fi_2h m ob hq_ st_) k
  have wo122 := hw _ (own_m 122 rfl)
  have wo123 := hw _ (own_m 123 rfl)
  have wo128 := hw _ (own_m 128 rfl)
  have wo132 := hw _ (own_m 132 rfl)
  have wo208 := hw _ (own_m 208 rfl)
  have wo209 := hw _ (own_m 209 rfl)
  have wo210 := hw _ (own_m 210 rfl)
  have wo211 := hw _ (own_m 211 rfl)
  obtain ⟨T1, X1, e1, st1⟩ := getF X0 hx hZ hown (host := "") (Or.inl wo132) Via.refl e0 pf_F_ob_values (g := (mkF m 1 #[rv ob, iv hq_, rv st_, .val .null, .unset, .unset, .unset] [(.ref ob)])) rfl rfl (hb hby d34_1)
  obtain ⟨cl2, Ar2, Sz2, Nn2⟩ := id pf_L_va
  have pre3 : ∀ t, Steps p.tables e below (T1.setTop (mkF m 15 #[rv ob, iv hq_, rv st_, .val .null, iv 7, iv (hq_ &&& 7), .unset] [])) t → Steps p.tables e below (s₁.setTop (entryFrame m #[(.ref ob), (.int hq_), (.ref st_), .null] 7)) t := by
    intro t_ k_
    refine pre0 _ ?_
    show Steps _ _ _ (State.setTop _ (mkF m 0 #[rv ob, iv hq_, rv st_, .val .null, .unset, .unset, .unset] [])) _
    refine XS.aloadN X0.here hx rfl (hb hby d34_0) rfl rfl ?_
    refine st1 _ ?_
    refine X1.arraylength hx (by rw [e1]; exact Ar2.1) (State.isArrayOf_alike hZ.alike Ar2.2.1) (g := (mkF m 4 #[rv ob, iv hq_, rv st_, .val .null, .unset, .unset, .unset] [(.ref va)])) rfl rfl (hb hby d34_4) _ ?_
    rw [len_of Sz2 Nn2]
    show Steps _ _ _ (State.setTop _ (mkF m 5 #[rv ob, iv hq_, rv st_, .val .null, .unset, .unset, .unset] [(.int 8)])) _
    refine XS.iconst X1.here hx rfl (hb hby d34_5) ?_
    refine XS.isub X1.here hx rfl (hb hby d34_6) rfl ?_
    refine XS.istore X1.here hx rfl (hb hby d34_7) rfl (l' := #[rv ob, iv hq_, rv st_, .val .null, iv 7, .unset, .unset]) rfl ?_
    refine XS.iloadN X1.here hx rfl (hb hby d34_9) rfl ?_
    refine XS.iload X1.here hx rfl (hb hby d34_10) rfl ?_
    refine XS.iand X1.here hx rfl (hb hby d34_12) rfl ?_
    show Steps _ _ _ (State.setTop _ (mkF m 13 #[rv ob, iv hq_, rv st_, .val .null, iv 7, .unset, .unset] [(.int (hq_ &&& 7))])) _
    refine XS.istore X1.here hx rfl (hb hby d34_13) rfl (l' := #[rv ob, iv hq_, rv st_, .val .null, iv 7, iv (hq_ &&& 7), .unset]) rfl ?_
    exact k_
  by_cases hb4 : (hq_ &&& 7) = (ha_ &&& 7)
  · skip
    obtain ⟨T5, X5, e5, st5⟩ := getF X1 hx hZ hown (host := "") (Or.inl wo128) Via.refl e1 pf_F_ob_slots (g := (mkF m 16 #[rv ob, iv hq_, rv st_, .val .null, iv 7, iv (hq_ &&& 7), .unset] [(.ref ob)])) rfl rfl (hb hby d34_16)
    obtain ⟨kk6, cl6, Ar6, qq6, Sz6, Nn6, Hs6, Gf6⟩ := id pf_A_sl
    have hin7 : ¬ ((((2 : Int32) * (hq_ &&& 7)) + 1) < 0 ∨ cl6.slots.size ≤ ((((2 : Int32) * (hq_ &&& 7)) + 1)).toNatClampNeg) := inb_of Sz6 (own_i1 (own_m7 _))
    have hat8 : cl6.slots[((((2 : Int32) * (hq_ &&& 7)) + 1)).toNatClampNeg]? = some (.int (own_g SL (((2 : Int32) * (hq_ &&& 7)) + 1))) := Has.at Hs6 hin7 (own_cvg _ _)
    have q9 : (own_g SL (((2 : Int32) * (hq_ &&& 7)) + 1)) = ua_ := by rw [hb4]; exact hT.2.2.2.1
    have hc10 : ¬ (ua_ = 0) := own_z0 hu1.1
    obtain ⟨T11, X11, e11, st11⟩ := getF X5 hx hZ hown (host := "") (Or.inl wo128) Via.refl e5 pf_F_ob_slots (g := (mkF m 34 #[rv ob, iv hq_, rv st_, .val .null, iv 7, iv (hq_ &&& 7), iv ua_] [(.ref ob)])) rfl rfl (hb hby d34_34)
    obtain ⟨kk12, cl12, Ar12, qq12, Sz12, Nn12, Hs12, Gf12⟩ := id pf_A_sl
    have hin13 : ¬ (((2 : Int32) * (hq_ &&& 7)) < 0 ∨ cl12.slots.size ≤ (((2 : Int32) * (hq_ &&& 7))).toNatClampNeg) := inb_of Sz12 (own_i0 (own_m7 _))
    have hat14 : cl12.slots[(((2 : Int32) * (hq_ &&& 7))).toNatClampNeg]? = some (.int (own_g SL ((2 : Int32) * (hq_ &&& 7)))) := Has.at Hs12 hin13 (own_cvg _ _)
    have pre16 : ∀ t, Steps p.tables e below (T11.setTop (mkF m 43 #[rv ob, iv hq_, rv st_, .val .null, iv 7, iv (hq_ &&& 7), iv ua_] [(.int hq_), (.int (own_g SL ((2 : Int32) * (hq_ &&& 7))))])) t → Steps p.tables e below (s₁.setTop (entryFrame m #[(.ref ob), (.int hq_), (.ref st_), .null] 7)) t := by
      intro t_ k_
      refine pre3 _ ?_
      refine XS.aloadN X1.here hx rfl (hb hby d34_15) rfl rfl ?_
      refine st5 _ ?_
      refine XS.iconst X5.here hx rfl (hb hby d34_19) ?_
      refine XS.iload X5.here hx rfl (hb hby d34_20) rfl ?_
      refine XS.imul X5.here hx rfl (hb hby d34_22) rfl ?_
      refine XS.iconst X5.here hx rfl (hb hby d34_23) ?_
      refine XS.iadd X5.here hx rfl (hb hby d34_24) rfl ?_
      refine X5.iaload hx (j := (((2 : Int32) * (hq_ &&& 7)) + 1)) (v := (.int (own_g SL (((2 : Int32) * (hq_ &&& 7)) + 1)))) (by rw [e5]; exact Ar6.1) (State.isArrayOf_alike hZ.alike Ar6.2.1) Ar6.2.2 hin7 hat8 (g := (mkF m 25 #[rv ob, iv hq_, rv st_, .val .null, iv 7, iv (hq_ &&& 7), .unset] [(.int (((2 : Int32) * (hq_ &&& 7)) + 1)), (.ref sl)])) rfl rfl (hb hby d34_25) _ ?_
      show Steps _ _ _ (State.setTop _ (mkF m 26 #[rv ob, iv hq_, rv st_, .val .null, iv 7, iv (hq_ &&& 7), .unset] [(.int (own_g SL (((2 : Int32) * (hq_ &&& 7)) + 1)))])) _
      refine XS.istore X5.here hx rfl (hb hby d34_26) rfl (l' := #[rv ob, iv hq_, rv st_, .val .null, iv 7, iv (hq_ &&& 7), iv (own_g SL (((2 : Int32) * (hq_ &&& 7)) + 1))]) rfl ?_
      show Steps _ _ _ (State.setTop _ (mkF m 28 #[rv ob, iv hq_, rv st_, .val .null, iv 7, iv (hq_ &&& 7), iv (own_g SL (((2 : Int32) * (hq_ &&& 7)) + 1))] [])) _
      rw [q9]
      show Steps _ _ _ (State.setTop _ (mkF m 28 #[rv ob, iv hq_, rv st_, .val .null, iv 7, iv (hq_ &&& 7), iv ua_] [])) _
      show Steps _ _ _ (State.setTop _ (mkF m 28 #[rv ob, iv hq_, rv st_, .val .null, iv 7, iv (hq_ &&& 7), iv ua_] [])) _
      refine XS.iload X5.here hx rfl (hb hby d34_28) rfl ?_
      refine XS.ifNo X5.here hx rfl (hb hby d34_30) rfl ((if0 _ _).trans (feq hc10).1) ?_
      refine XS.aloadN X5.here hx rfl (hb hby d34_33) rfl rfl ?_
      refine st11 _ ?_
      refine XS.iconst X11.here hx rfl (hb hby d34_37) ?_
      refine XS.iload X11.here hx rfl (hb hby d34_38) rfl ?_
      show Steps _ _ _ (State.setTop _ (mkF m 40 #[rv ob, iv hq_, rv st_, .val .null, iv 7, iv (hq_ &&& 7), iv ua_] [(.int (hq_ &&& 7)), (.int 2), (.ref sl)])) _
      refine XS.imul X11.here hx rfl (hb hby d34_40) rfl ?_
      refine X11.iaload hx (j := ((2 : Int32) * (hq_ &&& 7))) (v := (.int (own_g SL ((2 : Int32) * (hq_ &&& 7))))) (by rw [e11]; exact Ar12.1) (State.isArrayOf_alike hZ.alike Ar12.2.1) Ar12.2.2 hin13 hat14 (g := (mkF m 41 #[rv ob, iv hq_, rv st_, .val .null, iv 7, iv (hq_ &&& 7), iv ua_] [(.int ((2 : Int32) * (hq_ &&& 7))), (.ref sl)])) rfl rfl (hb hby d34_41) _ ?_
      refine XS.iloadN X11.here hx rfl (hb hby d34_42) rfl ?_
      exact k_
    by_cases hc43_15 : (own_g SL ((2 : Int32) * (hq_ &&& 7))) = hq_
    · skip
      obtain ⟨cq17, q17, q17'⟩ := pf_E_ob.cell
      obtain ⟨_, _, ⟨T17, L17, k17, n17⟩, -, X17, ⟨Lc17, hQ17, l17, y17, z17⟩, st17⟩ := X11.privateBack hx (y := MN42) hown (mvT hZ wo208) (mvT hZ wo209) (own_sel (Cond.privateMethod_at (mvP hZ wo210 (args := #[]))) (mvT hZ wo209) (mvT hZ wo122 (args := #[])) (by decide)) (Cond.privateMethod_at (mvP hZ wo210 (args := #[]))) (mvT hZ wo211) (by decide) (backOf (W := 0) (mm_2 l Z a0 hw [] ob re RL ua_ na_ Oa_ wa_ st_ sv_ c0 c1 cs fm h0 n0 Z0 pf_O pS_COMPAC hcs pS_SIOOBE rfm pf_E_st_ pf_F_st__value pf_F_st__coder pf_A_sv_ hrA pf_E_ob pf_F_ob_records pf_A_re hT.2.1 hu1 hn1 hT.2.2.2.2.1) hZ wo211 wo123 (by decide) (by decide)) (g := (mkF m 51 #[rv ob, iv hq_, rv st_, .val .null, iv 7, iv (hq_ &&& 7), iv ua_] [.null, (.ref st_), (.int ua_), (.ref ob)])) rfl (by rw [hml]; rfl) (Steps.refl _) (a := ob) (by rw [e11]; exact q17) q17' (argsL := [(.int ua_), (.ref st_), .null]) (rest := []) (lenOf pd_20 rfl) rfl (by show 2 * 0 + _ ≤ _; exact Nat.le_of_eq rfl) (hb hby d34_51) (fun _ _ => ⟨rfl, e11, (by decide : 0 + 0 ≤ _), (by decide : 0 + 0 ≤ _)⟩)
      dsimp only [Pt.U, Pt.locs, Pt.cells, Pt.slots] at X17 l17 y17 z17 st17 hQ17
      rw [l17, y17, z17] at X17
      obtain ⟨rfl, N17q, K17q⟩ := hQ17
      have N18 := Fr.app N0 N17q
      have q19 : (((hq_ &&& 7) + 1) &&& 7) = (own_sl2 hq_ (ha_ &&& 7)) := by unfold own_sl2; rw [if_pos hb4, hb4]
      obtain ⟨T20, X20, e20, st20⟩ := getF X17 hx hZ hown (host := "") (Or.inl wo128) Via.refl K17q pf_F_ob_slots (g := (mkF m 70 #[rv ob, iv hq_, rv st_, .val .null, iv 7, iv (own_sl2 hq_ (ha_ &&& 7)), iv ua_] [(.ref ob)])) rfl rfl (hb hby d34_70)
      obtain ⟨kk21, cl21, Ar21, qq21, Sz21, Nn21, Hs21, Gf21⟩ := id pf_A_sl
      have hin22 : ¬ ((((2 : Int32) * (own_sl2 hq_ (ha_ &&& 7))) + 1) < 0 ∨ cl21.slots.size ≤ ((((2 : Int32) * (own_sl2 hq_ (ha_ &&& 7))) + 1)).toNatClampNeg) := inb_of Sz21 (own_i1 (own_sl2r _ _))
      have hat23 : cl21.slots[((((2 : Int32) * (own_sl2 hq_ (ha_ &&& 7))) + 1)).toNatClampNeg]? = some (.int (own_g SL (((2 : Int32) * (own_sl2 hq_ (ha_ &&& 7))) + 1))) := Has.at Hs21 hin22 (own_cvg _ _)
      have q24 : (own_g SL (((2 : Int32) * (own_sl2 hq_ (ha_ &&& 7))) + 1)) = ub_ := hT.2.2.2.2.2.2.1
      have hc25 : ¬ (ub_ = 0) := own_z0 hu2.1
      obtain ⟨T26, X26, e26, st26⟩ := getF X20 hx hZ hown (host := "") (Or.inl wo128) Via.refl e20 pf_F_ob_slots (g := (mkF m 34 #[rv ob, iv hq_, rv st_, .val .null, iv 7, iv (own_sl2 hq_ (ha_ &&& 7)), iv ub_] [(.ref ob)])) rfl rfl (hb hby d34_34)
      obtain ⟨kk27, cl27, Ar27, qq27, Sz27, Nn27, Hs27, Gf27⟩ := id pf_A_sl
      have hin28 : ¬ (((2 : Int32) * (own_sl2 hq_ (ha_ &&& 7))) < 0 ∨ cl27.slots.size ≤ (((2 : Int32) * (own_sl2 hq_ (ha_ &&& 7)))).toNatClampNeg) := inb_of Sz27 (own_i0 (own_sl2r _ _))
      have hat29 : cl27.slots[(((2 : Int32) * (own_sl2 hq_ (ha_ &&& 7)))).toNatClampNeg]? = some (.int (own_g SL ((2 : Int32) * (own_sl2 hq_ (ha_ &&& 7))))) := Has.at Hs27 hin28 (own_cvg _ _)
      have hc30 : (own_g SL ((2 : Int32) * (own_sl2 hq_ (ha_ &&& 7)))) = hq_ := hT.2.2.2.2.2.1
      obtain ⟨cq31, q31, q31'⟩ := pf_E_ob.cell
      obtain ⟨_, _, ⟨T31, L31, k31, n31⟩, -, X31, ⟨Lc31, hQ31, l31, y31, z31⟩, st31⟩ := X26.privateBack hx (y := MN42) hown (mvT hZ wo208) (mvT hZ wo209) (own_sel (Cond.privateMethod_at (mvP hZ wo210 (args := #[]))) (mvT hZ wo209) (mvT hZ wo122 (args := #[])) (by decide)) (Cond.privateMethod_at (mvP hZ wo210 (args := #[]))) (mvT hZ wo211) (by decide) (backOf (W := 0) (mh_2 l Z a0 hw [] ob re RL ub_ nb_ Ob_ st_ sv_ c0 c1 cs fm h0 n0 Z0 pf_O pS_COMPAC hcs pS_SIOOBE rfm pf_E_st_ pf_F_st__value pf_F_st__coder pf_A_sv_ hrA pf_E_ob pf_F_ob_records pf_A_re hT.2.1 hu2 hn2 hT.2.2.2.2.2.2.2) hZ wo211 wo123 (by decide) (by decide)) (g := (mkF m 51 #[rv ob, iv hq_, rv st_, .val .null, iv 7, iv (own_sl2 hq_ (ha_ &&& 7)), iv ub_] [.null, (.ref st_), (.int ub_), (.ref ob)])) rfl (by rw [hml]; rfl) (Steps.refl _) (a := ob) (by rw [e26]; exact q31) q31' (argsL := [(.int ub_), (.ref st_), .null]) (rest := []) (lenOf pd_20 rfl) rfl (by show 2 * 0 + _ ≤ _; exact Nat.le_of_eq rfl) (hb hby d34_51) (fun _ _ => ⟨rfl, e26, (by decide : 0 + 0 ≤ _), (by decide : 0 + 0 ≤ _)⟩)
      dsimp only [Pt.U, Pt.locs, Pt.cells, Pt.slots] at X31 l31 y31 z31 st31 hQ31
      rw [l31, y31, z31] at X31
      obtain ⟨rfl, N31q, K31q⟩ := hQ31
      have N32 := Fr.app N18 N31q
      obtain ⟨fs, hr, hrun, hended, hW, hsame⟩ := X31.leave (v := some (.int (own_sl2 hq_ (ha_ &&& 7)))) (fun h => by rw [Bd.returns] at h; cases h)
      refine ⟨_, _, pre16 _ ?_, hrun, hended, _, _, rfl, ?_, ⟨_, rfl⟩, hW, hsame.mono (by decide) (by decide)⟩
      · show Steps _ _ _ (State.setTop _ (mkF m 43 #[rv ob, iv hq_, rv st_, .val .null, iv 7, iv (hq_ &&& 7), iv ua_] [(.int hq_), (.int (own_g SL ((2 : Int32) * (hq_ &&& 7))))])) _
        refine XS.icmpNo X11.here hx rfl (hb hby d34_43) rfl (teq hc43_15).2 ?_
        refine XS.aloadN X11.here hx rfl (hb hby d34_46) rfl rfl ?_
        refine XS.iload X11.here hx rfl (hb hby d34_47) rfl ?_
        refine XS.aloadN X11.here hx rfl (hb hby d34_49) rfl rfl ?_
        refine XS.aloadN X11.here hx rfl (hb hby d34_50) rfl rfl ?_
        refine st17.trans ?_
        refine XS.ifYes X17.here hx rfl (pc0 := 54) (pc' := 60) rfl (hb hby d34_54) rfl ((if0 _ _).trans (teq (by decide : (0 : Int32) = 0)).1) (by decide) (by decide) ?_
        show Steps _ _ _ (State.setTop _ (mkF m 60 #[rv ob, iv hq_, rv st_, .val .null, iv 7, iv (hq_ &&& 7), iv ua_] [])) _
        refine XS.iload X17.here hx rfl (hb hby d34_60) rfl ?_
        refine XS.iconst X17.here hx rfl (hb hby d34_62) ?_
        refine XS.iadd X17.here hx rfl (hb hby d34_63) rfl ?_
        refine XS.iload X17.here hx rfl (hb hby d34_64) rfl ?_
        refine XS.iand X17.here hx rfl (hb hby d34_66) rfl ?_
        refine XS.istore X17.here hx rfl (hb hby d34_67) rfl (l' := #[rv ob, iv hq_, rv st_, .val .null, iv 7, iv (((hq_ &&& 7) + 1) &&& 7), iv ua_]) rfl ?_
        show Steps _ _ _ (State.setTop _ (mkF m 69 #[rv ob, iv hq_, rv st_, .val .null, iv 7, iv (((hq_ &&& 7) + 1) &&& 7), iv ua_] [])) _
        rw [q19]
        show Steps _ _ _ (State.setTop _ (mkF m 69 #[rv ob, iv hq_, rv st_, .val .null, iv 7, iv (own_sl2 hq_ (ha_ &&& 7)), iv ua_] [])) _
        show Steps _ _ _ (State.setTop _ (mkF m 69 #[rv ob, iv hq_, rv st_, .val .null, iv 7, iv (own_sl2 hq_ (ha_ &&& 7)), iv ua_] [])) _
        refine XS.aloadN X17.here hx rfl (hb hby d34_69) rfl rfl ?_
        show Steps _ _ _ (State.setTop _ (mkF m 70 #[rv ob, iv hq_, rv st_, .val .null, iv 7, iv (own_sl2 hq_ (ha_ &&& 7)), iv ua_] [(.ref ob)])) _
        refine st20 _ ?_
        refine XS.iconst X20.here hx rfl (hb hby d34_73) ?_
        refine XS.iload X20.here hx rfl (hb hby d34_74) rfl ?_
        refine XS.imul X20.here hx rfl (hb hby d34_76) rfl ?_
        refine XS.iconst X20.here hx rfl (hb hby d34_77) ?_
        refine XS.iadd X20.here hx rfl (hb hby d34_78) rfl ?_
        refine X20.iaload hx (j := (((2 : Int32) * (own_sl2 hq_ (ha_ &&& 7))) + 1)) (v := (.int (own_g SL (((2 : Int32) * (own_sl2 hq_ (ha_ &&& 7))) + 1)))) (by rw [e20]; exact Ar21.1) (State.isArrayOf_alike hZ.alike Ar21.2.1) Ar21.2.2 hin22 hat23 (g := (mkF m 79 #[rv ob, iv hq_, rv st_, .val .null, iv 7, iv (own_sl2 hq_ (ha_ &&& 7)), iv ua_] [(.int (((2 : Int32) * (own_sl2 hq_ (ha_ &&& 7))) + 1)), (.ref sl)])) rfl rfl (hb hby d34_79) _ ?_
        refine XS.istore X20.here hx rfl (hb hby d34_80) rfl (l' := #[rv ob, iv hq_, rv st_, .val .null, iv 7, iv (own_sl2 hq_ (ha_ &&& 7)), iv (own_g SL (((2 : Int32) * (own_sl2 hq_ (ha_ &&& 7))) + 1))]) rfl ?_
        refine XS.goto X20.here hx rfl (pc0 := 82) (pc' := 28) rfl (hb hby d34_82) (by decide) (by decide) ?_
        show Steps _ _ _ (State.setTop _ (mkF m 28 #[rv ob, iv hq_, rv st_, .val .null, iv 7, iv (own_sl2 hq_ (ha_ &&& 7)), iv (own_g SL (((2 : Int32) * (own_sl2 hq_ (ha_ &&& 7))) + 1))] [])) _
        rw [q24]
        show Steps _ _ _ (State.setTop _ (mkF m 28 #[rv ob, iv hq_, rv st_, .val .null, iv 7, iv (own_sl2 hq_ (ha_ &&& 7)), iv ub_] [])) _
        show Steps _ _ _ (State.setTop _ (mkF m 28 #[rv ob, iv hq_, rv st_, .val .null, iv 7, iv (own_sl2 hq_ (ha_ &&& 7)), iv ub_] [])) _
        refine XS.iload X20.here hx rfl (hb hby d34_28) rfl ?_
        refine XS.ifNo X20.here hx rfl (hb hby d34_30) rfl ((if0 _ _).trans (feq hc25).1) ?_
        refine XS.aloadN X20.here hx rfl (hb hby d34_33) rfl rfl ?_
        refine st26 _ ?_
        refine XS.iconst X26.here hx rfl (hb hby d34_37) ?_
        refine XS.iload X26.here hx rfl (hb hby d34_38) rfl ?_
        refine XS.imul X26.here hx rfl (hb hby d34_40) rfl ?_
        show Steps _ _ _ (State.setTop _ (mkF m 41 #[rv ob, iv hq_, rv st_, .val .null, iv 7, iv (own_sl2 hq_ (ha_ &&& 7)), iv ub_] [(.int ((2 : Int32) * (own_sl2 hq_ (ha_ &&& 7)))), (.ref sl)])) _
        refine X26.iaload hx (j := ((2 : Int32) * (own_sl2 hq_ (ha_ &&& 7)))) (v := (.int (own_g SL ((2 : Int32) * (own_sl2 hq_ (ha_ &&& 7)))))) (by rw [e26]; exact Ar27.1) (State.isArrayOf_alike hZ.alike Ar27.2.1) Ar27.2.2 hin28 hat29 (g := (mkF m 41 #[rv ob, iv hq_, rv st_, .val .null, iv 7, iv (own_sl2 hq_ (ha_ &&& 7)), iv ub_] [(.int ((2 : Int32) * (own_sl2 hq_ (ha_ &&& 7)))), (.ref sl)])) rfl rfl (hb hby d34_41) _ ?_
        refine XS.iloadN X26.here hx rfl (hb hby d34_42) rfl ?_
        refine XS.icmpNo X26.here hx rfl (hb hby d34_43) rfl (teq hc30).2 ?_
        refine XS.aloadN X26.here hx rfl (hb hby d34_46) rfl rfl ?_
        refine XS.iload X26.here hx rfl (hb hby d34_47) rfl ?_
        refine XS.aloadN X26.here hx rfl (hb hby d34_49) rfl rfl ?_
        refine XS.aloadN X26.here hx rfl (hb hby d34_50) rfl rfl ?_
        refine st31.trans ?_
        refine XS.ifNo X31.here hx rfl (hb hby d34_54) rfl ((if0 _ _).trans (feq (by decide : ¬ ((1 : Int32) = 0))).1) ?_
        show Steps _ _ _ (State.setTop _ (mkF m 57 #[rv ob, iv hq_, rv st_, .val .null, iv 7, iv (own_sl2 hq_ (ha_ &&& 7)), iv ub_] [])) _
        refine XS.iload X31.here hx rfl (hb hby d34_57) rfl ?_
        show Steps _ _ _ (State.setTop _ (mkF m 59 #[rv ob, iv hq_, rv st_, .val .null, iv 7, iv (own_sl2 hq_ (ha_ &&& 7)), iv ub_] [(.int (own_sl2 hq_ (ha_ &&& 7)))])) _
        exact retI X31 hx Bd.returns (hb hby d34_59) hr
      · show Q_fi_2h Z _ _ _ _ _ _ _ _ _ _ _ _ _ _ _ _ _ _ _ _ _ h0 n0 _ T31.heap _
        rw [K31q]
        exact ⟨rfl, N32, rfl⟩
    · skip
      have q33 : (((hq_ &&& 7) + 1) &&& 7) = (own_sl2 hq_ (ha_ &&& 7)) := by unfold own_sl2; rw [if_pos hb4, hb4]
      obtain ⟨T34, X34, e34, st34⟩ := getF X11 hx hZ hown (host := "") (Or.inl wo128) Via.refl e11 pf_F_ob_slots (g := (mkF m 70 #[rv ob, iv hq_, rv st_, .val .null, iv 7, iv (own_sl2 hq_ (ha_ &&& 7)), iv ua_] [(.ref ob)])) rfl rfl (hb hby d34_70)
      obtain ⟨kk35, cl35, Ar35, qq35, Sz35, Nn35, Hs35, Gf35⟩ := id pf_A_sl
      have hin36 : ¬ ((((2 : Int32) * (own_sl2 hq_ (ha_ &&& 7))) + 1) < 0 ∨ cl35.slots.size ≤ ((((2 : Int32) * (own_sl2 hq_ (ha_ &&& 7))) + 1)).toNatClampNeg) := inb_of Sz35 (own_i1 (own_sl2r _ _))
      have hat37 : cl35.slots[((((2 : Int32) * (own_sl2 hq_ (ha_ &&& 7))) + 1)).toNatClampNeg]? = some (.int (own_g SL (((2 : Int32) * (own_sl2 hq_ (ha_ &&& 7))) + 1))) := Has.at Hs35 hin36 (own_cvg _ _)
      have q38 : (own_g SL (((2 : Int32) * (own_sl2 hq_ (ha_ &&& 7))) + 1)) = ub_ := hT.2.2.2.2.2.2.1
      have hc39 : ¬ (ub_ = 0) := own_z0 hu2.1
      obtain ⟨T40, X40, e40, st40⟩ := getF X34 hx hZ hown (host := "") (Or.inl wo128) Via.refl e34 pf_F_ob_slots (g := (mkF m 34 #[rv ob, iv hq_, rv st_, .val .null, iv 7, iv (own_sl2 hq_ (ha_ &&& 7)), iv ub_] [(.ref ob)])) rfl rfl (hb hby d34_34)
      obtain ⟨kk41, cl41, Ar41, qq41, Sz41, Nn41, Hs41, Gf41⟩ := id pf_A_sl
      have hin42 : ¬ (((2 : Int32) * (own_sl2 hq_ (ha_ &&& 7))) < 0 ∨ cl41.slots.size ≤ (((2 : Int32) * (own_sl2 hq_ (ha_ &&& 7)))).toNatClampNeg) := inb_of Sz41 (own_i0 (own_sl2r _ _))
      have hat43 : cl41.slots[(((2 : Int32) * (own_sl2 hq_ (ha_ &&& 7)))).toNatClampNeg]? = some (.int (own_g SL ((2 : Int32) * (own_sl2 hq_ (ha_ &&& 7))))) := Has.at Hs41 hin42 (own_cvg _ _)
      have hc44 : (own_g SL ((2 : Int32) * (own_sl2 hq_ (ha_ &&& 7)))) = hq_ := hT.2.2.2.2.2.1
      obtain ⟨cq45, q45, q45'⟩ := pf_E_ob.cell
      obtain ⟨_, _, ⟨T45, L45, k45, n45⟩, -, X45, ⟨Lc45, hQ45, l45, y45, z45⟩, st45⟩ := X40.privateBack hx (y := MN42) hown (mvT hZ wo208) (mvT hZ wo209) (own_sel (Cond.privateMethod_at (mvP hZ wo210 (args := #[]))) (mvT hZ wo209) (mvT hZ wo122 (args := #[])) (by decide)) (Cond.privateMethod_at (mvP hZ wo210 (args := #[]))) (mvT hZ wo211) (by decide) (backOf (W := 0) (mh_2 l Z a0 hw [] ob re RL ub_ nb_ Ob_ st_ sv_ c0 c1 cs fm h0 n0 Z0 pf_O pS_COMPAC hcs pS_SIOOBE rfm pf_E_st_ pf_F_st__value pf_F_st__coder pf_A_sv_ hrA pf_E_ob pf_F_ob_records pf_A_re hT.2.1 hu2 hn2 hT.2.2.2.2.2.2.2) hZ wo211 wo123 (by decide) (by decide)) (g := (mkF m 51 #[rv ob, iv hq_, rv st_, .val .null, iv 7, iv (own_sl2 hq_ (ha_ &&& 7)), iv ub_] [.null, (.ref st_), (.int ub_), (.ref ob)])) rfl (by rw [hml]; rfl) (Steps.refl _) (a := ob) (by rw [e40]; exact q45) q45' (argsL := [(.int ub_), (.ref st_), .null]) (rest := []) (lenOf pd_20 rfl) rfl (by show 2 * 0 + _ ≤ _; exact Nat.le_of_eq rfl) (hb hby d34_51) (fun _ _ => ⟨rfl, e40, (by decide : 0 + 0 ≤ _), (by decide : 0 + 0 ≤ _)⟩)
      dsimp only [Pt.U, Pt.locs, Pt.cells, Pt.slots] at X45 l45 y45 z45 st45 hQ45
      rw [l45, y45, z45] at X45
      obtain ⟨rfl, N45q, K45q⟩ := hQ45
      have N46 := Fr.app N0 N45q
      obtain ⟨fs, hr, hrun, hended, hW, hsame⟩ := X45.leave (v := some (.int (own_sl2 hq_ (ha_ &&& 7)))) (fun h => by rw [Bd.returns] at h; cases h)
      refine ⟨_, _, pre16 _ ?_, hrun, hended, _, _, rfl, ?_, ⟨_, rfl⟩, hW, hsame.mono (by decide) (by decide)⟩
      · show Steps _ _ _ (State.setTop _ (mkF m 43 #[rv ob, iv hq_, rv st_, .val .null, iv 7, iv (hq_ &&& 7), iv ua_] [(.int hq_), (.int (own_g SL ((2 : Int32) * (hq_ &&& 7))))])) _
        refine XS.icmpYes X11.here hx rfl (pc0 := 43) (pc' := 60) rfl (hb hby d34_43) rfl (feq hc43_15).2 (by decide) (by decide) ?_
        refine XS.iload X11.here hx rfl (hb hby d34_60) rfl ?_
        refine XS.iconst X11.here hx rfl (hb hby d34_62) ?_
        refine XS.iadd X11.here hx rfl (hb hby d34_63) rfl ?_
        refine XS.iload X11.here hx rfl (hb hby d34_64) rfl ?_
        refine XS.iand X11.here hx rfl (hb hby d34_66) rfl ?_
        refine XS.istore X11.here hx rfl (hb hby d34_67) rfl (l' := #[rv ob, iv hq_, rv st_, .val .null, iv 7, iv (((hq_ &&& 7) + 1) &&& 7), iv ua_]) rfl ?_
        show Steps _ _ _ (State.setTop _ (mkF m 69 #[rv ob, iv hq_, rv st_, .val .null, iv 7, iv (((hq_ &&& 7) + 1) &&& 7), iv ua_] [])) _
        rw [q33]
        show Steps _ _ _ (State.setTop _ (mkF m 69 #[rv ob, iv hq_, rv st_, .val .null, iv 7, iv (own_sl2 hq_ (ha_ &&& 7)), iv ua_] [])) _
        show Steps _ _ _ (State.setTop _ (mkF m 69 #[rv ob, iv hq_, rv st_, .val .null, iv 7, iv (own_sl2 hq_ (ha_ &&& 7)), iv ua_] [])) _
        refine XS.aloadN X11.here hx rfl (hb hby d34_69) rfl rfl ?_
        refine st34 _ ?_
        refine XS.iconst X34.here hx rfl (hb hby d34_73) ?_
        refine XS.iload X34.here hx rfl (hb hby d34_74) rfl ?_
        refine XS.imul X34.here hx rfl (hb hby d34_76) rfl ?_
        refine XS.iconst X34.here hx rfl (hb hby d34_77) ?_
        refine XS.iadd X34.here hx rfl (hb hby d34_78) rfl ?_
        refine X34.iaload hx (j := (((2 : Int32) * (own_sl2 hq_ (ha_ &&& 7))) + 1)) (v := (.int (own_g SL (((2 : Int32) * (own_sl2 hq_ (ha_ &&& 7))) + 1)))) (by rw [e34]; exact Ar35.1) (State.isArrayOf_alike hZ.alike Ar35.2.1) Ar35.2.2 hin36 hat37 (g := (mkF m 79 #[rv ob, iv hq_, rv st_, .val .null, iv 7, iv (own_sl2 hq_ (ha_ &&& 7)), iv ua_] [(.int (((2 : Int32) * (own_sl2 hq_ (ha_ &&& 7))) + 1)), (.ref sl)])) rfl rfl (hb hby d34_79) _ ?_
        show Steps _ _ _ (State.setTop _ (mkF m 80 #[rv ob, iv hq_, rv st_, .val .null, iv 7, iv (own_sl2 hq_ (ha_ &&& 7)), iv ua_] [(.int (own_g SL (((2 : Int32) * (own_sl2 hq_ (ha_ &&& 7))) + 1)))])) _
        refine XS.istore X34.here hx rfl (hb hby d34_80) rfl (l' := #[rv ob, iv hq_, rv st_, .val .null, iv 7, iv (own_sl2 hq_ (ha_ &&& 7)), iv (own_g SL (((2 : Int32) * (own_sl2 hq_ (ha_ &&& 7))) + 1))]) rfl ?_
        refine XS.goto X34.here hx rfl (pc0 := 82) (pc' := 28) rfl (hb hby d34_82) (by decide) (by decide) ?_
        show Steps _ _ _ (State.setTop _ (mkF m 28 #[rv ob, iv hq_, rv st_, .val .null, iv 7, iv (own_sl2 hq_ (ha_ &&& 7)), iv (own_g SL (((2 : Int32) * (own_sl2 hq_ (ha_ &&& 7))) + 1))] [])) _
        rw [q38]
        show Steps _ _ _ (State.setTop _ (mkF m 28 #[rv ob, iv hq_, rv st_, .val .null, iv 7, iv (own_sl2 hq_ (ha_ &&& 7)), iv ub_] [])) _
        show Steps _ _ _ (State.setTop _ (mkF m 28 #[rv ob, iv hq_, rv st_, .val .null, iv 7, iv (own_sl2 hq_ (ha_ &&& 7)), iv ub_] [])) _
        refine XS.iload X34.here hx rfl (hb hby d34_28) rfl ?_
        refine XS.ifNo X34.here hx rfl (hb hby d34_30) rfl ((if0 _ _).trans (feq hc39).1) ?_
        refine XS.aloadN X34.here hx rfl (hb hby d34_33) rfl rfl ?_
        refine st40 _ ?_
        refine XS.iconst X40.here hx rfl (hb hby d34_37) ?_
        show Steps _ _ _ (State.setTop _ (mkF m 38 #[rv ob, iv hq_, rv st_, .val .null, iv 7, iv (own_sl2 hq_ (ha_ &&& 7)), iv ub_] [(.int 2), (.ref sl)])) _
        refine XS.iload X40.here hx rfl (hb hby d34_38) rfl ?_
        refine XS.imul X40.here hx rfl (hb hby d34_40) rfl ?_
        refine X40.iaload hx (j := ((2 : Int32) * (own_sl2 hq_ (ha_ &&& 7)))) (v := (.int (own_g SL ((2 : Int32) * (own_sl2 hq_ (ha_ &&& 7)))))) (by rw [e40]; exact Ar41.1) (State.isArrayOf_alike hZ.alike Ar41.2.1) Ar41.2.2 hin42 hat43 (g := (mkF m 41 #[rv ob, iv hq_, rv st_, .val .null, iv 7, iv (own_sl2 hq_ (ha_ &&& 7)), iv ub_] [(.int ((2 : Int32) * (own_sl2 hq_ (ha_ &&& 7)))), (.ref sl)])) rfl rfl (hb hby d34_41) _ ?_
        refine XS.iloadN X40.here hx rfl (hb hby d34_42) rfl ?_
        refine XS.icmpNo X40.here hx rfl (hb hby d34_43) rfl (teq hc44).2 ?_
        refine XS.aloadN X40.here hx rfl (hb hby d34_46) rfl rfl ?_
        refine XS.iload X40.here hx rfl (hb hby d34_47) rfl ?_
        refine XS.aloadN X40.here hx rfl (hb hby d34_49) rfl rfl ?_
        refine XS.aloadN X40.here hx rfl (hb hby d34_50) rfl rfl ?_
        show Steps _ _ _ (State.setTop _ (mkF m 51 #[rv ob, iv hq_, rv st_, .val .null, iv 7, iv (own_sl2 hq_ (ha_ &&& 7)), iv ub_] [.null, (.ref st_), (.int ub_), (.ref ob)])) _
        refine st45.trans ?_
        refine XS.ifNo X45.here hx rfl (hb hby d34_54) rfl ((if0 _ _).trans (feq (by decide : ¬ ((1 : Int32) = 0))).1) ?_
        refine XS.iload X45.here hx rfl (hb hby d34_57) rfl ?_
        show Steps _ _ _ (State.setTop _ (mkF m 59 #[rv ob, iv hq_, rv st_, .val .null, iv 7, iv (own_sl2 hq_ (ha_ &&& 7)), iv ub_] [(.int (own_sl2 hq_ (ha_ &&& 7)))])) _
        exact retI X45 hx Bd.returns (hb hby d34_59) hr
      · show Q_fi_2h Z _ _ _ _ _ _ _ _ _ _ _ _ _ _ _ _ _ _ _ _ _ h0 n0 _ T45.heap _
        rw [K45q]
        exact ⟨rfl, N46, rfl⟩
  · skip
    have q47 : (hq_ &&& 7) = (own_sl2 hq_ (ha_ &&& 7)) := by unfold own_sl2; rw [if_neg hb4]
    obtain ⟨T48, X48, e48, st48⟩ := getF X1 hx hZ hown (host := "") (Or.inl wo128) Via.refl e1 pf_F_ob_slots (g := (mkF m 16 #[rv ob, iv hq_, rv st_, .val .null, iv 7, iv (own_sl2 hq_ (ha_ &&& 7)), .unset] [(.ref ob)])) rfl rfl (hb hby d34_16)
    obtain ⟨kk49, cl49, Ar49, qq49, Sz49, Nn49, Hs49, Gf49⟩ := id pf_A_sl
    have hin50 : ¬ ((((2 : Int32) * (own_sl2 hq_ (ha_ &&& 7))) + 1) < 0 ∨ cl49.slots.size ≤ ((((2 : Int32) * (own_sl2 hq_ (ha_ &&& 7))) + 1)).toNatClampNeg) := inb_of Sz49 (own_i1 (own_sl2r _ _))
    have hat51 : cl49.slots[((((2 : Int32) * (own_sl2 hq_ (ha_ &&& 7))) + 1)).toNatClampNeg]? = some (.int (own_g SL (((2 : Int32) * (own_sl2 hq_ (ha_ &&& 7))) + 1))) := Has.at Hs49 hin50 (own_cvg _ _)
    have q52 : (own_g SL (((2 : Int32) * (own_sl2 hq_ (ha_ &&& 7))) + 1)) = ub_ := hT.2.2.2.2.2.2.1
    have hc53 : ¬ (ub_ = 0) := own_z0 hu2.1
    obtain ⟨T54, X54, e54, st54⟩ := getF X48 hx hZ hown (host := "") (Or.inl wo128) Via.refl e48 pf_F_ob_slots (g := (mkF m 34 #[rv ob, iv hq_, rv st_, .val .null, iv 7, iv (own_sl2 hq_ (ha_ &&& 7)), iv ub_] [(.ref ob)])) rfl rfl (hb hby d34_34)
    obtain ⟨kk55, cl55, Ar55, qq55, Sz55, Nn55, Hs55, Gf55⟩ := id pf_A_sl
    have hin56 : ¬ (((2 : Int32) * (own_sl2 hq_ (ha_ &&& 7))) < 0 ∨ cl55.slots.size ≤ (((2 : Int32) * (own_sl2 hq_ (ha_ &&& 7)))).toNatClampNeg) := inb_of Sz55 (own_i0 (own_sl2r _ _))
    have hat57 : cl55.slots[(((2 : Int32) * (own_sl2 hq_ (ha_ &&& 7)))).toNatClampNeg]? = some (.int (own_g SL ((2 : Int32) * (own_sl2 hq_ (ha_ &&& 7))))) := Has.at Hs55 hin56 (own_cvg _ _)
    have hc58 : (own_g SL ((2 : Int32) * (own_sl2 hq_ (ha_ &&& 7)))) = hq_ := hT.2.2.2.2.2.1
    obtain ⟨cq59, q59, q59'⟩ := pf_E_ob.cell
    obtain ⟨_, _, ⟨T59, L59, k59, n59⟩, -, X59, ⟨Lc59, hQ59, l59, y59, z59⟩, st59⟩ := X54.privateBack hx (y := MN42) hown (mvT hZ wo208) (mvT hZ wo209) (own_sel (Cond.privateMethod_at (mvP hZ wo210 (args := #[]))) (mvT hZ wo209) (mvT hZ wo122 (args := #[])) (by decide)) (Cond.privateMethod_at (mvP hZ wo210 (args := #[]))) (mvT hZ wo211) (by decide) (backOf (W := 0) (mh_2 l Z a0 hw [] ob re RL ub_ nb_ Ob_ st_ sv_ c0 c1 cs fm h0 n0 Z0 pf_O pS_COMPAC hcs pS_SIOOBE rfm pf_E_st_ pf_F_st__value pf_F_st__coder pf_A_sv_ hrA pf_E_ob pf_F_ob_records pf_A_re hT.2.1 hu2 hn2 hT.2.2.2.2.2.2.2) hZ wo211 wo123 (by decide) (by decide)) (g := (mkF m 51 #[rv ob, iv hq_, rv st_, .val .null, iv 7, iv (own_sl2 hq_ (ha_ &&& 7)), iv ub_] [.null, (.ref st_), (.int ub_), (.ref ob)])) rfl (by rw [hml]; rfl) (Steps.refl _) (a := ob) (by rw [e54]; exact q59) q59' (argsL := [(.int ub_), (.ref st_), .null]) (rest := []) (lenOf pd_20 rfl) rfl (by show 2 * 0 + _ ≤ _; exact Nat.le_of_eq rfl) (hb hby d34_51) (fun _ _ => ⟨rfl, e54, (by decide : 0 + 0 ≤ _), (by decide : 0 + 0 ≤ _)⟩)
    dsimp only [Pt.U, Pt.locs, Pt.cells, Pt.slots] at X59 l59 y59 z59 st59 hQ59
    rw [l59, y59, z59] at X59
    obtain ⟨rfl, N59q, K59q⟩ := hQ59
    have N60 := Fr.app N0 N59q
    obtain ⟨fs, hr, hrun, hended, hW, hsame⟩ := X59.leave (v := some (.int (own_sl2 hq_ (ha_ &&& 7)))) (fun h => by rw [Bd.returns] at h; cases h)
    refine ⟨_, _, pre3 _ ?_, hrun, hended, _, _, rfl, ?_, ⟨_, rfl⟩, hW, hsame.mono (by decide) (by decide)⟩
    · show Steps _ _ _ (State.setTop _ (mkF m 15 #[rv ob, iv hq_, rv st_, .val .null, iv 7, iv (hq_ &&& 7), .unset] [])) _
      rw [q47]
      show Steps _ _ _ (State.setTop _ (mkF m 15 #[rv ob, iv hq_, rv st_, .val .null, iv 7, iv (own_sl2 hq_ (ha_ &&& 7)), .unset] [])) _
      show Steps _ _ _ (State.setTop _ (mkF m 15 #[rv ob, iv hq_, rv st_, .val .null, iv 7, iv (own_sl2 hq_ (ha_ &&& 7)), .unset] [])) _
      refine XS.aloadN X1.here hx rfl (hb hby d34_15) rfl rfl ?_
      refine st48 _ ?_
      refine XS.iconst X48.here hx rfl (hb hby d34_19) ?_
      refine XS.iload X48.here hx rfl (hb hby d34_20) rfl ?_
      show Steps _ _ _ (State.setTop _ (mkF m 22 #[rv ob, iv hq_, rv st_, .val .null, iv 7, iv (own_sl2 hq_ (ha_ &&& 7)), .unset] [(.int (own_sl2 hq_ (ha_ &&& 7))), (.int 2), (.ref sl)])) _
      refine XS.imul X48.here hx rfl (hb hby d34_22) rfl ?_
      refine XS.iconst X48.here hx rfl (hb hby d34_23) ?_
      refine XS.iadd X48.here hx rfl (hb hby d34_24) rfl ?_
      refine X48.iaload hx (j := (((2 : Int32) * (own_sl2 hq_ (ha_ &&& 7))) + 1)) (v := (.int (own_g SL (((2 : Int32) * (own_sl2 hq_ (ha_ &&& 7))) + 1)))) (by rw [e48]; exact Ar49.1) (State.isArrayOf_alike hZ.alike Ar49.2.1) Ar49.2.2 hin50 hat51 (g := (mkF m 25 #[rv ob, iv hq_, rv st_, .val .null, iv 7, iv (own_sl2 hq_ (ha_ &&& 7)), .unset] [(.int (((2 : Int32) * (own_sl2 hq_ (ha_ &&& 7))) + 1)), (.ref sl)])) rfl rfl (hb hby d34_25) _ ?_
      refine XS.istore X48.here hx rfl (hb hby d34_26) rfl (l' := #[rv ob, iv hq_, rv st_, .val .null, iv 7, iv (own_sl2 hq_ (ha_ &&& 7)), iv (own_g SL (((2 : Int32) * (own_sl2 hq_ (ha_ &&& 7))) + 1))]) rfl ?_
      show Steps _ _ _ (State.setTop _ (mkF m 28 #[rv ob, iv hq_, rv st_, .val .null, iv 7, iv (own_sl2 hq_ (ha_ &&& 7)), iv (own_g SL (((2 : Int32) * (own_sl2 hq_ (ha_ &&& 7))) + 1))] [])) _
      rw [q52]
      show Steps _ _ _ (State.setTop _ (mkF m 28 #[rv ob, iv hq_, rv st_, .val .null, iv 7, iv (own_sl2 hq_ (ha_ &&& 7)), iv ub_] [])) _
      show Steps _ _ _ (State.setTop _ (mkF m 28 #[rv ob, iv hq_, rv st_, .val .null, iv 7, iv (own_sl2 hq_ (ha_ &&& 7)), iv ub_] [])) _
      refine XS.iload X48.here hx rfl (hb hby d34_28) rfl ?_
      refine XS.ifNo X48.here hx rfl (hb hby d34_30) rfl ((if0 _ _).trans (feq hc53).1) ?_
      show Steps _ _ _ (State.setTop _ (mkF m 33 #[rv ob, iv hq_, rv st_, .val .null, iv 7, iv (own_sl2 hq_ (ha_ &&& 7)), iv ub_] [])) _
      refine XS.aloadN X48.here hx rfl (hb hby d34_33) rfl rfl ?_
      refine st54 _ ?_
      refine XS.iconst X54.here hx rfl (hb hby d34_37) ?_
      refine XS.iload X54.here hx rfl (hb hby d34_38) rfl ?_
      refine XS.imul X54.here hx rfl (hb hby d34_40) rfl ?_
      refine X54.iaload hx (j := ((2 : Int32) * (own_sl2 hq_ (ha_ &&& 7)))) (v := (.int (own_g SL ((2 : Int32) * (own_sl2 hq_ (ha_ &&& 7)))))) (by rw [e54]; exact Ar55.1) (State.isArrayOf_alike hZ.alike Ar55.2.1) Ar55.2.2 hin56 hat57 (g := (mkF m 41 #[rv ob, iv hq_, rv st_, .val .null, iv 7, iv (own_sl2 hq_ (ha_ &&& 7)), iv ub_] [(.int ((2 : Int32) * (own_sl2 hq_ (ha_ &&& 7)))), (.ref sl)])) rfl rfl (hb hby d34_41) _ ?_
      refine XS.iloadN X54.here hx rfl (hb hby d34_42) rfl ?_
      refine XS.icmpNo X54.here hx rfl (hb hby d34_43) rfl (teq hc58).2 ?_
      refine XS.aloadN X54.here hx rfl (hb hby d34_46) rfl rfl ?_
      show Steps _ _ _ (State.setTop _ (mkF m 47 #[rv ob, iv hq_, rv st_, .val .null, iv 7, iv (own_sl2 hq_ (ha_ &&& 7)), iv ub_] [(.ref ob)])) _
      refine XS.iload X54.here hx rfl (hb hby d34_47) rfl ?_
      refine XS.aloadN X54.here hx rfl (hb hby d34_49) rfl rfl ?_
      refine XS.aloadN X54.here hx rfl (hb hby d34_50) rfl rfl ?_
      refine st59.trans ?_
      refine XS.ifNo X59.here hx rfl (hb hby d34_54) rfl ((if0 _ _).trans (feq (by decide : ¬ ((1 : Int32) = 0))).1) ?_
      refine XS.iload X59.here hx rfl (hb hby d34_57) rfl ?_
      show Steps _ _ _ (State.setTop _ (mkF m 59 #[rv ob, iv hq_, rv st_, .val .null, iv 7, iv (own_sl2 hq_ (ha_ &&& 7)), iv ub_] [(.int (own_sl2 hq_ (ha_ &&& 7)))])) _
      exact retI X59 hx Bd.returns (hb hby d34_59) hr
    · show Q_fi_2h Z _ _ _ _ _ _ _ _ _ _ _ _ _ _ _ _ _ _ _ _ _ h0 n0 _ T59.heap _
      rw [K59q]
      exact ⟨rfl, N60, rfl⟩
theorem d39_0 : decode prog_25_method_24_code 0 = .ok (.aload_n 0, 1) := by decide +kernel
theorem d39_1 : decode prog_25_method_24_code 1 = .ok (.getfield 110, 3) := by decide +kernel
theorem d39_4 : decode prog_25_method_24_code 4 = .ok (.sipush 1024, 3) := by decide +kernel
theorem d39_7 : decode prog_25_method_24_code 7 = .ok (.if_icmp .le 16, 3) := by decide +kernel
theorem d39_23 : decode prog_25_method_24_code 23 = .ok (.return_, 1) := by decide +kernel
theorem ef_pk_ (m : MethodId) (x0 : Addr) : entryFrame m #[(.ref x0)] 6 = mkF m 0 #[rv x0, .unset, .unset, .unset, .unset, .unset] [] := by first | (simp [entryFrame, mkF, argsToLocals, Value.category]; done) | rfl
def Q_pk_ (Z : State) (ob : Addr) (h0 : Heap) (n0 : Nat) (v : Option Value) (h : Heap) (L : List Loc) : Prop := v = none ∧ Fr n0 L ∧ h = h0
set_option maxRecDepth 65536 in
set_option maxHeartbeats 40000000 in
theorem pk_ (l : Launch) (Z : State) (a0 : Array Value) (hw : ∀ d ∈ tables_1, d.before a0 Z = true) (ws : List Jvm.Cond) (ob : Addr) (h0 : Heap) (n0 : Nat) (Z0 : n0 ≤ h0.size) (pf_F_ob_unused : Fld Z h0 ob "com/example/arbiter/arbiter/OrdinalTable" "unused" "I" (.int 0)) :
    MetFree l MN39 (head1 (Jvm.Cond.code MN39 prog_25_method_24_code 6 none :: ws) (Room.mk 0 0 0 0)) (fun a U => a = #[(.ref ob)] ∧ Z.Warmed39 U.vm ∧ U.heap = h0) (fun _ _ _ _ _ => True) (fun _ U o U' => ∃ v L, o = .returned v ∧ Q_pk_ Z ob h0 n0 v U'.heap L ∧ FrameEnd U o U' L (Room.mk 0 0 0 0).cells (Room.mk 0 0 0 0).slots) := by
  refine MetFree.of_bodySF (plainFor_of_name pn_com_example_arbiter_arbiter_OrdinalTable) hisR ?_
  intro p e s m args below meth c s₁ Bd hml0 hP hK
  obtain ⟨rfl, hZ, hh⟩ := hP
  have hx := Bd.exec
  have hby := Bd.bytes
  have hml : c.maxLocals = 6 := hml0
  have hown : s.vm.findClass "com/example/arbiter/arbiter/OrdinalTable" = some m.cls := findClass_of_methodNamed Bd.named
  have hnm := (name_of_methodNamed Bd.named Bd.method).1
  have X0 : Stand p l e (Room.mk 0 0 0 0) s m #[(.ref ob)] below meth c s₁ [] 0 0 := Stand.of_body Bd
  have e0 : s₁.heap = h0 := by rw [← hh, Bd.state]; rfl
  have N0 := Fr.nil n0
  have pre0 : ∀ t, Steps p.tables e below (s₁.setTop (mkF m 0 #[rv ob, .unset, .unset, .unset, .unset, .unset] [])) t → Steps p.tables e below (s₁.setTop (entryFrame m #[(.ref ob)] 6)) t := fun t k => castTop (ef_pk_ m ob) k
  have wo197 := hw _ (own_m 197 rfl)
  obtain ⟨T1, X1, e1, st1⟩ := getF X0 hx hZ hown (host := "") (Or.inl wo197) Via.refl e0 pf_F_ob_unused (g := (mkF m 1 #[rv ob, .unset, .unset, .unset, .unset, .unset] [(.ref ob)])) rfl rfl (hb hby d39_1)
  obtain ⟨fs, hr, hrun, hended, hW, hsame⟩ := X1.leave (v := none) (fun _ => rfl)
  refine ⟨_, _, pre0 _ ?_, hrun, hended, _, _, rfl, ?_, ⟨_, rfl⟩, hW, hsame.mono (by decide) (by decide)⟩
  · show Steps _ _ _ (State.setTop _ (mkF m 0 #[rv ob, .unset, .unset, .unset, .unset, .unset] [])) _
    refine XS.aloadN X0.here hx rfl (hb hby d39_0) rfl rfl ?_
    show Steps _ _ _ (State.setTop _ (mkF m 1 #[rv ob, .unset, .unset, .unset, .unset, .unset] [(.ref ob)])) _
    refine st1 _ ?_
    refine XS.sipush X1.here hx rfl (hb hby d39_4) ?_
    refine XS.icmpYes X1.here hx rfl (pc0 := 7) (pc' := 23) rfl (hb hby d39_7) rfl (flt (by decide : ¬ ((1024 : Int32) < 0))).2.2.2 (by decide) (by decide) ?_
    show Steps _ _ _ (State.setTop _ (mkF m 23 #[rv ob, .unset, .unset, .unset, .unset, .unset] [])) _
    exact X1.returnOut hx Bd.returns (hb hby d39_23) hr
  · show Q_pk_ Z _ h0 n0 _ T1.heap _
    rw [e1]
    exact ⟨rfl, N0, rfl⟩
theorem d30_0 : decode prog_25_method_19_code 0 = .ok (.aload_n 0, 1) := by decide +kernel
theorem d30_1 : decode prog_25_method_19_code 1 = .ok (.aload_n 1, 1) := by decide +kernel
theorem d30_2 : decode prog_25_method_19_code 2 = .ok (.aload_n 2, 1) := by decide +kernel
theorem pd_29 : parseMethodDescriptor "(Ljava/lang/String;Ljava/lang/String;)I" = some ⟨[(.object "java/lang/String"), (.object "java/lang/String")], some .int⟩ := by decide +kernel
theorem d30_3 : decode prog_25_method_19_code 3 = .ok (.invokevirtual 93, 3) := by decide +kernel
theorem d30_6 : decode prog_25_method_19_code 6 = .ok (.istore 5, 2) := by decide +kernel
theorem d30_8 : decode prog_25_method_19_code 8 = .ok (.aload_n 0, 1) := by decide +kernel
theorem d30_9 : decode prog_25_method_19_code 9 = .ok (.iload 5, 2) := by decide +kernel
theorem d30_11 : decode prog_25_method_19_code 11 = .ok (.aload_n 1, 1) := by decide +kernel
theorem d30_12 : decode prog_25_method_19_code 12 = .ok (.aload_n 2, 1) := by decide +kernel
theorem pd_19 : parseMethodDescriptor "(ILjava/lang/String;Ljava/lang/String;)I" = some ⟨[.int, (.object "java/lang/String"), (.object "java/lang/String")], some .int⟩ := by decide +kernel
theorem d30_13 : decode prog_25_method_19_code 13 = .ok (.invokevirtual 96, 3) := by decide +kernel
theorem d30_16 : decode prog_25_method_19_code 16 = .ok (.istore 6, 2) := by decide +kernel
theorem d30_18 : decode prog_25_method_19_code 18 = .ok (.iload 6, 2) := by decide +kernel
theorem d30_20 : decode prog_25_method_19_code 20 = .ok (.iconst (-1), 1) := by decide +kernel
theorem d30_21 : decode prog_25_method_19_code 21 = .ok (.if_icmp .ne 53, 3) := by decide +kernel
theorem d30_24 : decode prog_25_method_19_code 24 = .ok (.iconst 4, 1) := by decide +kernel
theorem d30_25 : decode prog_25_method_19_code 25 = .ok (.aload_n 0, 1) := by decide +kernel
theorem d30_26 : decode prog_25_method_19_code 26 = .ok (.getfield 71, 3) := by decide +kernel
theorem d30_29 : decode prog_25_method_19_code 29 = .ok (.iconst 1, 1) := by decide +kernel
theorem d30_30 : decode prog_25_method_19_code 30 = .ok (.iadd, 1) := by decide +kernel
theorem d30_31 : decode prog_25_method_19_code 31 = .ok (.imul, 1) := by decide +kernel
theorem d30_32 : decode prog_25_method_19_code 32 = .ok (.iconst 3, 1) := by decide +kernel
theorem d30_33 : decode prog_25_method_19_code 33 = .ok (.aload_n 0, 1) := by decide +kernel
theorem d30_34 : decode prog_25_method_19_code 34 = .ok (.getfield 26, 3) := by decide +kernel
theorem d30_37 : decode prog_25_method_19_code 37 = .ok (.arraylength, 1) := by decide +kernel
theorem d30_38 : decode prog_25_method_19_code 38 = .ok (.imul, 1) := by decide +kernel
theorem d30_39 : decode prog_25_method_19_code 39 = .ok (.if_icmp .le 14, 3) := by decide +kernel
theorem d30_53 : decode prog_25_method_19_code 53 = .ok (.aload_n 0, 1) := by decide +kernel
theorem d30_54 : decode prog_25_method_19_code 54 = .ok (.iload 5, 2) := by decide +kernel
theorem pd_9 : parseMethodDescriptor "(I)I" = some ⟨[.int], some .int⟩ := by decide +kernel
theorem d30_56 : decode prog_25_method_19_code 56 = .ok (.invokevirtual 106, 3) := by decide +kernel
theorem d30_59 : decode prog_25_method_19_code 59 = .ok (.istore 6, 2) := by decide +kernel
theorem d30_61 : decode prog_25_method_19_code 61 = .ok (.aload_n 0, 1) := by decide +kernel
theorem d30_62 : decode prog_25_method_19_code 62 = .ok (.dup, 1) := by decide +kernel
theorem d30_63 : decode prog_25_method_19_code 63 = .ok (.getfield 71, 3) := by decide +kernel
theorem d30_66 : decode prog_25_method_19_code 66 = .ok (.iconst 1, 1) := by decide +kernel
theorem d30_67 : decode prog_25_method_19_code 67 = .ok (.iadd, 1) := by decide +kernel
theorem d30_68 : decode prog_25_method_19_code 68 = .ok (.putfield 71, 3) := by decide +kernel
theorem d30_71 : decode prog_25_method_19_code 71 = .ok (.goto 27, 3) := by decide +kernel
theorem d30_98 : decode prog_25_method_19_code 98 = .ok (.aload_n 0, 1) := by decide +kernel
theorem d30_99 : decode prog_25_method_19_code 99 = .ok (.getfield 22, 3) := by decide +kernel
theorem d30_102 : decode prog_25_method_19_code 102 = .ok (.iconst 2, 1) := by decide +kernel
theorem d30_103 : decode prog_25_method_19_code 103 = .ok (.iload 6, 2) := by decide +kernel
theorem d30_105 : decode prog_25_method_19_code 105 = .ok (.imul, 1) := by decide +kernel
theorem d30_106 : decode prog_25_method_19_code 106 = .ok (.iload 5, 2) := by decide +kernel
theorem d30_108 : decode prog_25_method_19_code 108 = .ok (.iastore, 1) := by decide +kernel
theorem d30_109 : decode prog_25_method_19_code 109 = .ok (.aload_n 0, 1) := by decide +kernel
theorem d30_110 : decode prog_25_method_19_code 110 = .ok (.getfield 22, 3) := by decide +kernel
theorem d30_113 : decode prog_25_method_19_code 113 = .ok (.iconst 2, 1) := by decide +kernel
theorem d30_114 : decode prog_25_method_19_code 114 = .ok (.iload 6, 2) := by decide +kernel
theorem d30_116 : decode prog_25_method_19_code 116 = .ok (.imul, 1) := by decide +kernel
theorem d30_117 : decode prog_25_method_19_code 117 = .ok (.iconst 1, 1) := by decide +kernel
theorem d30_118 : decode prog_25_method_19_code 118 = .ok (.iadd, 1) := by decide +kernel
theorem d30_119 : decode prog_25_method_19_code 119 = .ok (.aload_n 0, 1) := by decide +kernel
theorem d30_120 : decode prog_25_method_19_code 120 = .ok (.aload_n 1, 1) := by decide +kernel
theorem d30_121 : decode prog_25_method_19_code 121 = .ok (.aload_n 2, 1) := by decide +kernel
theorem d30_122 : decode prog_25_method_19_code 122 = .ok (.aload 4, 2) := by decide +kernel
theorem pd_31 : parseMethodDescriptor "(Ljava/lang/String;Ljava/lang/String;[I)I" = some ⟨[(.object "java/lang/String"), (.object "java/lang/String"), (.array .int)], some .int⟩ := by decide +kernel
theorem d30_124 : decode prog_25_method_19_code 124 = .ok (.invokevirtual 116, 3) := by decide +kernel
theorem d30_127 : decode prog_25_method_19_code 127 = .ok (.iastore, 1) := by decide +kernel
theorem d30_128 : decode prog_25_method_19_code 128 = .ok (.aload_n 0, 1) := by decide +kernel
theorem d30_129 : decode prog_25_method_19_code 129 = .ok (.getfield 26, 3) := by decide +kernel
theorem d30_132 : decode prog_25_method_19_code 132 = .ok (.iload 6, 2) := by decide +kernel
theorem d30_134 : decode prog_25_method_19_code 134 = .ok (.aload_n 3, 1) := by decide +kernel
theorem d30_135 : decode prog_25_method_19_code 135 = .ok (.aastore, 1) := by decide +kernel
theorem d30_136 : decode prog_25_method_19_code 136 = .ok (.aload_n 0, 1) := by decide +kernel
theorem pd_3 : parseMethodDescriptor "()V" = some ⟨[], none⟩ := by decide +kernel
theorem d30_137 : decode prog_25_method_19_code 137 = .ok (.invokevirtual 120, 3) := by decide +kernel
theorem d30_140 : decode prog_25_method_19_code 140 = .ok (.return_, 1) := by decide +kernel
theorem ef_pu_1 (m : MethodId) (x0 x1 x4 : Addr) : entryFrame m #[(.ref x0), (.ref x1), .null, .null, (.ref x4)] 7 = mkF m 0 #[rv x0, rv x1, .val .null, .val .null, rv x4, .unset, .unset] [] := by first | (simp [entryFrame, mkF, argsToLocals, Value.category]; done) | rfl
def Q_pu_1 (Z : State) (ob sl va re : Addr) (SL RL : List Int32) (sd u_ : Int32) (od : Addr) (OL : List Int32) (n_ : Int32) (st_ sv_ : Addr) (c0 cs : Int32) (fm : Value) (h0 : Heap) (n0 : Nat) (v : Option Value) (h : Heap) (L : List Loc) : Prop := ∃ (SL2 : List Int32) (RL2 : List Int32), v = none ∧ Fr n0 L ∧ Keep h0 h [ob, sl, va, re] ∧ (Fld Z h ob "com/example/arbiter/arbiter/OrdinalTable" "slots" "[I" (.ref sl)) ∧ (Fld Z h ob "com/example/arbiter/arbiter/OrdinalTable" "values" "[Ljava/lang/Object;" (.ref va)) ∧ (Fld Z h ob "com/example/arbiter/arbiter/OrdinalTable" "records" "[I" (.ref re)) ∧ (Av Z h sl .int 16 (own_cv SL2) (.int 0)) ∧ (Al Z h va (.object "java/lang/Object") (8 : Int32)) ∧ (Av Z h re .int 64 (own_cv RL2) (.int 0)) ∧ (Fld Z h ob "com/example/arbiter/arbiter/OrdinalTable" "seed" "I" (.int sd)) ∧ (Fld Z h ob "com/example/arbiter/arbiter/OrdinalTable" "used" "I" (.int (((((u_ + 1) + n_) + 1) + 1) + 1))) ∧ (Fld Z h ob "com/example/arbiter/arbiter/OrdinalTable" "unused" "I" (.int 0)) ∧ (Fld Z h ob "com/example/arbiter/arbiter/OrdinalTable" "size" "I" (.int 1)) ∧ (own_T1 SL2 RL2 (own_hash sd (1 : Int32) c0) u_ n_ OL c0)
set_option maxRecDepth 65536 in
set_option maxHeartbeats 40000000 in
theorem pu_1 (l : Launch) (Z : State) (a0 : Array Value) (hw : ∀ d ∈ tables_1, d.before a0 Z = true) (ws : List Jvm.Cond) (ob sl va re : Addr) (SL RL : List Int32) (sd u_ : Int32) (od : Addr) (OL : List Int32) (n_ : Int32) (st_ sv_ : Addr) (c0 cs : Int32) (fm : Value) (h0 : Heap) (n0 : Nat) (Z0 : n0 ≤ h0.size) (pf_O : Old Z n0 h0) (pS_COMPAC : Sta Z Z.heap "java/lang/String" "COMPACT_STRINGS" "Z" (.int cs)) (hcs : ¬ (cs = 0)) (pS_SIOOBE : Sta Z Z.heap "jdk/internal/util/Preconditions" "SIOOBE_FORMATTER" "Ljava/util/function/BiFunction;" fm) (rfm : fm.isRef = true) (pf_E_st_ : Exa Z h0 st_ "java/lang/String") (pf_F_st__value : Fld Z h0 st_ "java/lang/String" "value" "[B" (.ref sv_)) (pf_F_st__coder : Fld Z h0 st_ "java/lang/String" "coder" "B" (.int 0)) (pf_A_sv_ : Av Z h0 sv_ .byte (1 : Int32) (own_vs [c0]) (.int 0)) (hrA : ∀ c ∈ ([c0] : List Int32), ¬ c < 0 ∧ ¬ (255 : Int32) < c) (pf_E_ob : Exa Z h0 ob "com/example/arbiter/arbiter/OrdinalTable") (pf_F_ob_slots : Fld Z h0 ob "com/example/arbiter/arbiter/OrdinalTable" "slots" "[I" (.ref sl)) (pf_F_ob_values : Fld Z h0 ob "com/example/arbiter/arbiter/OrdinalTable" "values" "[Ljava/lang/Object;" (.ref va)) (pf_F_ob_records : Fld Z h0 ob "com/example/arbiter/arbiter/OrdinalTable" "records" "[I" (.ref re)) (pf_A_sl : Av Z h0 sl .int 16 (own_cv SL) (.int 0)) (pf_L_va : Al Z h0 va (.object "java/lang/Object") (8 : Int32)) (pf_A_re : Av Z h0 re .int 64 (own_cv RL) (.int 0)) (pf_F_ob_seed : Fld Z h0 ob "com/example/arbiter/arbiter/OrdinalTable" "seed" "I" (.int sd)) (pf_F_ob_used : Fld Z h0 ob "com/example/arbiter/arbiter/OrdinalTable" "used" "I" (.int u_)) (pf_F_ob_unused : Fld Z h0 ob "com/example/arbiter/arbiter/OrdinalTable" "unused" "I" (.int 0)) (pf_F_ob_size : Fld Z h0 ob "com/example/arbiter/arbiter/OrdinalTable" "size" "I" (.int 0)) (pf_A_od : Av Z h0 od .int n_ (own_cv OL) (.int 0)) (hu : 0 < u_.toInt ∧ u_.toInt < 20) (hn : 0 < n_.toInt ∧ n_.toInt < 5) (hOL : OL.length = n_.toNatClampNeg) (hT : own_T0 SL RL) (pf_G_ob : n0 ≤ ob) (pf_G_sl : n0 ≤ sl) (pf_G_va : n0 ≤ va) (pf_G_re : n0 ≤ re) (pf_NE_ob_sl : ob ≠ sl) (pf_NE_ob_va : ob ≠ va) (pf_NE_ob_re : ob ≠ re) (pf_NE_sl_va : sl ≠ va) (pf_NE_sl_re : sl ≠ re) (pf_NE_va_re : va ≠ re) (pf_NE_st__ob : st_ ≠ ob) (pf_NE_st__sl : st_ ≠ sl) (pf_NE_st__va : st_ ≠ va) (pf_NE_st__re : st_ ≠ re) (pf_NE_sv__ob : sv_ ≠ ob) (pf_NE_sv__sl : sv_ ≠ sl) (pf_NE_sv__va : sv_ ≠ va) (pf_NE_sv__re : sv_ ≠ re) (pf_NE_od_ob : od ≠ ob) (pf_NE_od_sl : od ≠ sl) (pf_NE_od_va : od ≠ va) (pf_NE_od_re : od ≠ re) :
    MetFree l MN30 (head1 (Jvm.Cond.code MN30 prog_25_method_19_code 7 none :: ws) (Room.mk 7 0 0 105)) (fun a U => a = #[(.ref ob), (.ref st_), .null, .null, (.ref od)] ∧ Z.Warmed39 U.vm ∧ U.heap = h0) (fun _ _ _ _ _ => True) (fun _ U o U' => ∃ v L, o = .returned v ∧ Q_pu_1 Z ob sl va re SL RL sd u_ od OL n_ st_ sv_ c0 cs fm h0 n0 v U'.heap L ∧ FrameEnd U o U' L (Room.mk 7 0 0 105).cells (Room.mk 7 0 0 105).slots) := by
  refine MetFree.of_bodySF (plainFor_of_name pn_com_example_arbiter_arbiter_OrdinalTable) hisR ?_
  intro p e s m args below meth c s₁ Bd hml0 hP hK
  obtain ⟨rfl, hZ, hh⟩ := hP
  have hx := Bd.exec
  have hby := Bd.bytes
  have hml : c.maxLocals = 7 := hml0
  have hown : s.vm.findClass "com/example/arbiter/arbiter/OrdinalTable" = some m.cls := findClass_of_methodNamed Bd.named
  have hnm := (name_of_methodNamed Bd.named Bd.method).1
  have X0 : Stand p l e (Room.mk 7 0 0 105) s m #[(.ref ob), (.ref st_), .null, .null, (.ref od)] below meth c s₁ [] 0 0 := Stand.of_body Bd
  have e0 : s₁.heap = h0 := by rw [← hh, Bd.state]; rfl
  have N0 := Fr.nil n0
  have pre0 : ∀ t, Steps p.tables e below (s₁.setTop (mkF m 0 #[rv ob, rv st_, .val .null, .val .null, rv od, .unset, .unset] [])) t → Steps p.tables e below (s₁.setTop (entryFrame m #[(.ref ob), (.ref st_), .null, .null, (.ref od)] 7)) t := fun t k => castTop (ef_pu_1 m ob st_ od) k
  have wo122 := hw _ (own_m 122 rfl)
  have wo123 := hw _ (own_m 123 rfl)
  have wo128 := hw _ (own_m 128 rfl)
  have wo129 := hw _ (own_m 129 rfl)
  have wo132 := hw _ (own_m 132 rfl)
  have wo133 := hw _ (own_m 133 rfl)
  have wo135 := hw _ (own_m 135 rfl)
  have wo137 := hw _ (own_m 137 rfl)
  have wo139 := hw _ (own_m 139 rfl)
  have wo154 := hw _ (own_m 154 rfl)
  have wo155 := hw _ (own_m 155 rfl)
  have wo156 := hw _ (own_m 156 rfl)
  have wo157 := hw _ (own_m 157 rfl)
  have wo168 := hw _ (own_m 168 rfl)
  have wo169 := hw _ (own_m 169 rfl)
  have wo170 := hw _ (own_m 170 rfl)
  have wo171 := hw _ (own_m 171 rfl)
  have wo172 := hw _ (own_m 172 rfl)
  have wo173 := hw _ (own_m 173 rfl)
  have wo174 := hw _ (own_m 174 rfl)
  have wo175 := hw _ (own_m 175 rfl)
  have wo176 := hw _ (own_m 176 rfl)
  have wo177 := hw _ (own_m 177 rfl)
  have wo178 := hw _ (own_m 178 rfl)
  have wo179 := hw _ (own_m 179 rfl)
  have wo180 := hw _ (own_m 180 rfl)
  have wo181 := hw _ (own_m 181 rfl)
  have wo193 := hw _ (own_m 193 rfl)
  have wo194 := hw _ (own_m 194 rfl)
  have wo195 := hw _ (own_m 195 rfl)
  have wo196 := hw _ (own_m 196 rfl)
  have wo198 := hw _ (own_m 198 rfl)
  obtain ⟨cq1, q1, q1'⟩ := pf_E_ob.cell
  obtain ⟨_, _, ⟨T1, L1, k1, n1⟩, -, X1, ⟨Lc1, hQ1, l1, y1, z1⟩, st1⟩ := X0.privateBack hx (y := MN31) hown (mvT hZ wo154) (mvT hZ wo155) (own_sel (Cond.privateMethod_at (mvP hZ wo156 (args := #[]))) (mvT hZ wo155) (mvT hZ wo122 (args := #[])) (by decide)) (Cond.privateMethod_at (mvP hZ wo156 (args := #[]))) (mvT hZ wo157) (by decide) (backOf (W := 0) (ha_1 l Z a0 hw [] ob sd st_ sv_ c0 cs fm h0 n0 Z0 pf_O pS_COMPAC hcs pS_SIOOBE rfm pf_E_st_ pf_F_st__value pf_F_st__coder pf_A_sv_ hrA pf_F_ob_seed) hZ wo157 wo123 (by decide) (by decide)) (g := (mkF m 3 #[rv ob, rv st_, .val .null, .val .null, rv od, .unset, .unset] [.null, (.ref st_), (.ref ob)])) rfl (by rw [hml]; rfl) (Steps.refl _) (a := ob) (by rw [e0]; exact q1) q1' (argsL := [(.ref st_), .null]) (rest := []) (lenOf pd_29 rfl) rfl (by show 2 * 0 + _ ≤ _; exact Nat.le_of_eq rfl) (hb hby d30_3) (fun _ _ => ⟨rfl, e0, (by decide : 0 + 0 ≤ _), (by decide : 0 + 0 ≤ _)⟩)
  dsimp only [Pt.U, Pt.locs, Pt.cells, Pt.slots] at X1 l1 y1 z1 st1 hQ1
  rw [l1, y1, z1] at X1
  obtain ⟨rfl, N1q, K1q⟩ := hQ1
  have N2 := Fr.app N0 N1q
  obtain ⟨cq3, q3, q3'⟩ := pf_E_ob.cell
  obtain ⟨_, _, ⟨T3, L3, k3, n3⟩, -, X3, ⟨Lc3, hQ3, l3, y3, z3⟩, st3⟩ := X1.privateBack hx (y := MN34) hown (mvT hZ wo168) (mvT hZ wo169) (own_sel (Cond.privateMethod_at (mvP hZ wo170 (args := #[]))) (mvT hZ wo169) (mvT hZ wo122 (args := #[])) (by decide)) (Cond.privateMethod_at (mvP hZ wo170 (args := #[]))) (mvT hZ wo171) (by decide) (backOf (W := 0) (fi_1e l Z a0 hw [] ob sl va re SL RL (own_hash sd (1 : Int32) c0) st_ sv_ c0 cs fm h0 n0 Z0 pf_O pS_COMPAC hcs pS_SIOOBE rfm pf_E_st_ pf_F_st__value pf_F_st__coder pf_A_sv_ hrA pf_E_ob pf_F_ob_slots pf_F_ob_values pf_F_ob_records pf_A_sl pf_L_va pf_A_re hT) hZ wo171 wo123 (by decide) (by decide)) (g := (mkF m 13 #[rv ob, rv st_, .val .null, .val .null, rv od, iv (own_hash sd (1 : Int32) c0), .unset] [.null, (.ref st_), (.int (own_hash sd (1 : Int32) c0)), (.ref ob)])) rfl (by rw [hml]; rfl) (Steps.refl _) (a := ob) (by rw [K1q]; exact q3) q3' (argsL := [(.int (own_hash sd (1 : Int32) c0)), (.ref st_), .null]) (rest := []) (lenOf pd_19 rfl) rfl (by show 2 * 0 + _ ≤ _; exact Nat.le_of_eq rfl) (hb hby d30_13) (fun _ _ => ⟨rfl, K1q, (by decide : 0 + 0 ≤ _), (by decide : 0 + 0 ≤ _)⟩)
  dsimp only [Pt.U, Pt.locs, Pt.cells, Pt.slots] at X3 l3 y3 z3 st3 hQ3
  rw [l3, y3, z3] at X3
  obtain ⟨rfl, N3q, K3q⟩ := hQ3
  have N4 := Fr.app N2 N3q
  obtain ⟨T5, X5, e5, st5⟩ := getF X3 hx hZ hown (host := "") (Or.inl wo172) Via.refl K3q pf_F_ob_size (g := (mkF m 26 #[rv ob, rv st_, .val .null, .val .null, rv od, iv (own_hash sd (1 : Int32) c0), iv (-1 : Int32)] [(.ref ob), (.int 4)])) rfl rfl (hb hby d30_26)
  obtain ⟨T6, X6, e6, st6⟩ := getF X5 hx hZ hown (host := "") (Or.inl wo132) Via.refl e5 pf_F_ob_values (g := (mkF m 34 #[rv ob, rv st_, .val .null, .val .null, rv od, iv (own_hash sd (1 : Int32) c0), iv (-1 : Int32)] [(.ref ob), (.int 3), (.int 4)])) rfl rfl (hb hby d30_34)
  obtain ⟨cl7, Ar7, Sz7, Nn7⟩ := id pf_L_va
  obtain ⟨cq8, q8, q8'⟩ := pf_E_ob.cell
  obtain ⟨_, _, ⟨T8, L8, k8, n8⟩, -, X8, ⟨Lc8, hQ8, l8, y8, z8⟩, st8⟩ := X6.privateBack hx (y := MN35) hown (mvT hZ wo174) (mvT hZ wo175) (own_sel (Cond.privateMethod_at (mvP hZ wo176 (args := #[]))) (mvT hZ wo175) (mvT hZ wo122 (args := #[])) (by decide)) (Cond.privateMethod_at (mvP hZ wo176 (args := #[]))) (mvT hZ wo177) (by decide) (backOf (W := 0) (es_1 l Z a0 hw [] ob sl va re SL RL (own_hash sd (1 : Int32) c0) h0 n0 Z0 pf_E_ob pf_F_ob_slots pf_F_ob_values pf_F_ob_records pf_A_sl pf_L_va pf_A_re hT) hZ wo177 wo123 (by decide) (by decide)) (g := (mkF m 56 #[rv ob, rv st_, .val .null, .val .null, rv od, iv (own_hash sd (1 : Int32) c0), iv (-1 : Int32)] [(.int (own_hash sd (1 : Int32) c0)), (.ref ob)])) rfl (by rw [hml]; rfl) (Steps.refl _) (a := ob) (by rw [e6]; exact q8) q8' (argsL := [(.int (own_hash sd (1 : Int32) c0))]) (rest := []) (lenOf pd_9 rfl) rfl (by show 2 * 0 + _ ≤ _; exact Nat.le_of_eq rfl) (hb hby d30_56) (fun _ _ => ⟨rfl, e6, (by decide : 0 + 0 ≤ _), (by decide : 0 + 0 ≤ _)⟩)
  dsimp only [Pt.U, Pt.locs, Pt.cells, Pt.slots] at X8 l8 y8 z8 st8 hQ8
  rw [l8, y8, z8] at X8
  obtain ⟨rfl, N8q, K8q⟩ := hQ8
  have N9 := Fr.app N4 N8q
  obtain ⟨T10, X10, e10, st10⟩ := getF X8 hx hZ hown (host := "") (Or.inl wo172) Via.refl K8q pf_F_ob_size (g := (mkF m 63 #[rv ob, rv st_, .val .null, .val .null, rv od, iv (own_hash sd (1 : Int32) c0), iv ((own_hash sd (1 : Int32) c0) &&& 7)] [(.ref ob), (.ref ob)])) rfl rfl (hb hby d30_63)
  obtain ⟨T11, h11, X11, e11, W11, st11⟩ := putF X10 hx hZ hown (host := "") (Or.inl wo172) Via.refl e10 pf_F_ob_size pf_E_ob (Or.inl wo173) wo122 (ty := .int) (by decide) rfl rfl (g := (mkF m 68 #[rv ob, rv st_, .val .null, .val .null, rv od, iv (own_hash sd (1 : Int32) c0), iv ((own_hash sd (1 : Int32) c0) &&& 7)] [(.int 1), (.ref ob)])) rfl rfl (hb hby d30_68)
  have K12 : Keep h0 h11 [ob, sl, va, re] := (Keep.refl h0 [ob, sl, va, re]).wr W11 (Or.inl (own_m 0 rfl))
  have f13 : Fld Z h11 ob "com/example/arbiter/arbiter/OrdinalTable" "size" "I" (.int 1) := pf_F_ob_size.same W11
  have N14 := Fr.snoc X11 N9 pf_G_ob
  have f15 := (pf_F_ob_slots.other W11 (Or.inr (slot_ne (Or.inl wo129) (Or.inl wo173) (by decide) (t := (.array .int)) (t' := .int) (by decide) (by decide))))
  obtain ⟨T16, X16, e16, st16⟩ := getF X11 hx hZ hown (host := "") (Or.inl wo128) Via.refl e11 f15 (g := (mkF m 99 #[rv ob, rv st_, .val .null, .val .null, rv od, iv (own_hash sd (1 : Int32) c0), iv ((own_hash sd (1 : Int32) c0) &&& 7)] [(.ref ob)])) rfl rfl (hb hby d30_99)
  have f17 := (pf_A_sl.other W11 (Ne.symm pf_NE_ob_sl))
  obtain ⟨kk18, cl18, Ar18, qq18, Sz18, Nn18, Hs18, Gf18⟩ := id f17
  have hin19 : ¬ (((2 : Int32) * ((own_hash sd (1 : Int32) c0) &&& 7)) < 0 ∨ cl18.slots.size ≤ (((2 : Int32) * ((own_hash sd (1 : Int32) c0) &&& 7))).toNatClampNeg) := inb_of Sz18 (own_i0 (own_m7 _))
  obtain ⟨T20, h20, X20, e20, W20, st20⟩ := stI X16 hx hZ e16 Ar18 (j := ((2 : Int32) * ((own_hash sd (1 : Int32) c0) &&& 7))) hin19 (g := (mkF m 108 #[rv ob, rv st_, .val .null, .val .null, rv od, iv (own_hash sd (1 : Int32) c0), iv ((own_hash sd (1 : Int32) c0) &&& 7)] [(.int (own_hash sd (1 : Int32) c0)), (.int ((2 : Int32) * ((own_hash sd (1 : Int32) c0) &&& 7))), (.ref sl)])) rfl rfl (hb hby d30_108)
  have K21 : Keep h0 h20 [ob, sl, va, re] := (K12).wr W20 (Or.inl (own_m 1 rfl))
  have f22 : Av Z h20 sl .int 16 (own_cv (own_s SL ((2 : Int32) * ((own_hash sd (1 : Int32) c0) &&& 7)) (own_hash sd (1 : Int32) c0))) (.int 0) := by rw [← own_cvs]; exact ⟨_, Arv.set Ar18 qq18 Sz18 Nn18 Hs18 Gf18 rfl W20 _ rfl (own_ltp Sz18 hin19 hT.1)⟩
  have N23 := Fr.snoc X20 N14 pf_G_sl
  have f24 := (f15.other W20 (Or.inl pf_NE_ob_sl))
  obtain ⟨T25, X25, e25, st25⟩ := getF X20 hx hZ hown (host := "") (Or.inl wo128) Via.refl e20 f24 (g := (mkF m 110 #[rv ob, rv st_, .val .null, .val .null, rv od, iv (own_hash sd (1 : Int32) c0), iv ((own_hash sd (1 : Int32) c0) &&& 7)] [(.ref ob)])) rfl rfl (hb hby d30_110)
  have f26 := ((pf_O.wr W11 pf_G_ob).wr W20 pf_G_sl)
  have f27 := ((pf_E_st_.wr W11).wr W20)
  have f28 := ((pf_F_st__value.other W11 (Or.inl pf_NE_st__ob)).other W20 (Or.inl pf_NE_st__sl))
  have f29 := ((pf_F_st__coder.other W11 (Or.inl pf_NE_st__ob)).other W20 (Or.inl pf_NE_st__sl))
  have f30 := ((pf_A_sv_.other W11 pf_NE_sv__ob).other W20 pf_NE_sv__sl)
  have f31 := ((pf_E_ob.wr W11).wr W20)
  have f32 := ((pf_F_ob_records.other W11 (Or.inr (slot_ne (Or.inl wo135) (Or.inl wo173) (by decide) (t := (.array .int)) (t' := .int) (by decide) (by decide)))).other W20 (Or.inl pf_NE_ob_sl))
  have f33 := ((pf_A_re.other W11 (Ne.symm pf_NE_ob_re)).other W20 (Ne.symm pf_NE_sl_re))
  have f34 := ((pf_F_ob_used.other W11 (Or.inr (slot_ne (Or.inl wo137) (Or.inl wo173) (by decide) (t := .int) (t' := .int) (by decide) (by decide)))).other W20 (Or.inl pf_NE_ob_sl))
  have f35 := ((pf_F_ob_values.other W11 (Or.inr (slot_ne (Or.inl wo133) (Or.inl wo173) (by decide) (t := (.array (.object "java/lang/Object"))) (t' := .int) (by decide) (by decide)))).other W20 (Or.inl pf_NE_ob_sl))
  have f36 := ((pf_F_ob_seed.other W11 (Or.inr (slot_ne (Or.inr wo139) (Or.inl wo173) (by decide) (t := .int) (t' := .int) (by decide) (by decide)))).other W20 (Or.inl pf_NE_ob_sl))
  have f37 := ((pf_F_ob_unused.other W11 (Or.inr (slot_ne (Or.inl wo198) (Or.inl wo173) (by decide) (t := .int) (t' := .int) (by decide) (by decide)))).other W20 (Or.inl pf_NE_ob_sl))
  have f38 := (f13.other W20 (Or.inl pf_NE_ob_sl))
  have f39 := ((pf_A_od.other W11 pf_NE_od_ob).other W20 pf_NE_od_sl)
  have f41 := (Nat.le_trans (Nat.le_trans Z0 (Keep.of_wr W11).1) (Keep.of_wr W20).1)
  obtain ⟨cq40, q40, q40'⟩ := f31.cell
  obtain ⟨_, _, ⟨T40, L40, k40, n40⟩, -, X40, ⟨Lc40, hQ40, l40, y40, z40⟩, st40⟩ := X25.privateBack hx (y := MN36) hown (mvT hZ wo178) (mvT hZ wo179) (own_sel (Cond.privateMethod_at (mvP hZ wo180 (args := #[]))) (mvT hZ wo179) (mvT hZ wo122 (args := #[])) (by decide)) (Cond.privateMethod_at (mvP hZ wo180 (args := #[]))) (mvT hZ wo181) (by decide) (backOf (W := 2) (wr_1 l Z a0 hw [] ob re RL u_ sl va sd (1 : Int32) od OL n_ st_ sv_ c0 cs fm h20 n0 f41 f26 pS_COMPAC hcs pS_SIOOBE rfm f27 f28 f29 f30 hrA f31 f32 f33 f34 f24 f35 f36 f37 f38 hT.2.1 f39 hu hn hOL pf_G_ob pf_G_re pf_NE_ob_re pf_NE_st__ob pf_NE_st__re pf_NE_sv__ob pf_NE_sv__re pf_NE_od_ob pf_NE_od_re) hZ wo181 wo123 (by decide) (by decide)) (g := (mkF m 124 #[rv ob, rv st_, .val .null, .val .null, rv od, iv (own_hash sd (1 : Int32) c0), iv ((own_hash sd (1 : Int32) c0) &&& 7)] [(.ref od), .null, (.ref st_), (.ref ob), (.int (((2 : Int32) * ((own_hash sd (1 : Int32) c0) &&& 7)) + 1)), (.ref sl)])) rfl (by rw [hml]; rfl) (Steps.refl _) (a := ob) (by rw [e25]; exact q40) q40' (argsL := [(.ref st_), .null, (.ref od)]) (rest := [(.int (((2 : Int32) * ((own_hash sd (1 : Int32) c0) &&& 7)) + 1)), (.ref sl)]) (lenOf pd_31 rfl) rfl (by show 2 * 0 + _ ≤ _; exact Nat.le_of_eq rfl) (hb hby d30_124) (fun _ _ => ⟨rfl, e25, (by decide : 0 + 0 ≤ _), (by decide : 0 + 0 ≤ _)⟩)
  dsimp only [Pt.U, Pt.locs, Pt.cells, Pt.slots] at X40 l40 y40 z40 st40 hQ40
  rw [l40, y40, z40] at X40
  obtain ⟨rfl, N40q, K40q, hq40_0, hq40_1, hq40_2, hq40_3, hq40_4, hq40_5, hq40_6, hq40_7⟩ := hQ40
  have N42 := Fr.app N23 N40q
  have K43 : Keep h0 T40.heap [ob, sl, va, re] := (K21).trans K40q (allS (P := fun x => x ∈ [ob, sl, va, re] ∨ h0.size ≤ x) (Or.inl (own_m 0 rfl)) (allS (P := fun x => x ∈ [ob, sl, va, re] ∨ h0.size ≤ x) (Or.inl (own_m 3 rfl)) all0))
  have f44 := (f22.keep K40q (ninS (Ne.symm pf_NE_ob_sl) (ninS pf_NE_sl_re nin0)))
  obtain ⟨kk45, cl45, Ar45, qq45, Sz45, Nn45, Hs45, Gf45⟩ := id f44
  have hin46 : ¬ ((((2 : Int32) * ((own_hash sd (1 : Int32) c0) &&& 7)) + 1) < 0 ∨ cl45.slots.size ≤ ((((2 : Int32) * ((own_hash sd (1 : Int32) c0) &&& 7)) + 1)).toNatClampNeg) := inb_of Sz45 (own_i1 (own_m7 _))
  obtain ⟨T47, h47, X47, e47, W47, st47⟩ := stI X40 hx hZ rfl Ar45 (j := (((2 : Int32) * ((own_hash sd (1 : Int32) c0) &&& 7)) + 1)) hin46 (g := (mkF m 127 #[rv ob, rv st_, .val .null, .val .null, rv od, iv (own_hash sd (1 : Int32) c0), iv ((own_hash sd (1 : Int32) c0) &&& 7)] [(.int u_), (.int (((2 : Int32) * ((own_hash sd (1 : Int32) c0) &&& 7)) + 1)), (.ref sl)])) rfl rfl (hb hby d30_127)
  have K48 : Keep h0 h47 [ob, sl, va, re] := (K43).wr W47 (Or.inl (own_m 1 rfl))
  have f49 : Av Z h47 sl .int 16 (own_cv (own_s (own_s SL ((2 : Int32) * ((own_hash sd (1 : Int32) c0) &&& 7)) (own_hash sd (1 : Int32) c0)) (((2 : Int32) * ((own_hash sd (1 : Int32) c0) &&& 7)) + 1) u_)) (.int 0) := by rw [← own_cvs]; exact ⟨_, Arv.set Ar45 qq45 Sz45 Nn45 Hs45 Gf45 rfl W47 _ rfl (own_ltp Sz45 hin46 ((own_sl _ _ _).trans hT.1))⟩
  have N50 := Fr.snoc X47 N42 pf_G_sl
  have f51 := (hq40_2.other W47 (Or.inl pf_NE_ob_sl))
  obtain ⟨T52, X52, e52, st52⟩ := getF X47 hx hZ hown (host := "") (Or.inl wo132) Via.refl e47 f51 (g := (mkF m 129 #[rv ob, rv st_, .val .null, .val .null, rv od, iv (own_hash sd (1 : Int32) c0), iv ((own_hash sd (1 : Int32) c0) &&& 7)] [(.ref ob)])) rfl rfl (hb hby d30_129)
  have f53 := ((((pf_L_va.other W11 (Ne.symm pf_NE_ob_va)).other W20 (Ne.symm pf_NE_sl_va)).keep K40q (ninS (Ne.symm pf_NE_ob_va) (ninS pf_NE_va_re nin0))).other W47 (Ne.symm pf_NE_sl_va))
  obtain ⟨cl54, Ar54, Sz54, Nn54⟩ := id f53
  have hin55 : ¬ (((own_hash sd (1 : Int32) c0) &&& 7) < 0 ∨ cl54.slots.size ≤ (((own_hash sd (1 : Int32) c0) &&& 7)).toNatClampNeg) := inb_of Sz54 (own_in (own_m7 _))
  obtain ⟨T56, h56, X56, e56, W56, st56⟩ := stR X52 hx hZ e52 Ar54 (j := ((own_hash sd (1 : Int32) c0) &&& 7)) hin55 rfl (Or.inl rfl) (g := (mkF m 135 #[rv ob, rv st_, .val .null, .val .null, rv od, iv (own_hash sd (1 : Int32) c0), iv ((own_hash sd (1 : Int32) c0) &&& 7)] [.null, (.int ((own_hash sd (1 : Int32) c0) &&& 7)), (.ref va)])) rfl rfl (hb hby d30_135)
  have K57 : Keep h0 h56 [ob, sl, va, re] := (K48).wr W56 (Or.inl (own_m 2 rfl))
  have f58 : Al Z h56 va (.object "java/lang/Object") (8 : Int32) := Al.same ⟨cl54, Ar54, Sz54, Nn54⟩ W56
  have N59 := Fr.snoc X56 N50 pf_G_va
  have f60 := ((hq40_4.other W47 (Or.inl pf_NE_ob_sl)).other W56 (Or.inl pf_NE_ob_va))
  have f62 := (Nat.le_trans (Nat.le_trans (Nat.le_trans f41 K40q.1) (Keep.of_wr W47).1) (Keep.of_wr W56).1)
  have f63 := (((f31.keep K40q).wr W47).wr W56)
  obtain ⟨cq61, q61, q61'⟩ := f63.cell
  obtain ⟨_, _, ⟨T61, L61, k61, n61⟩, -, X61, ⟨Lc61, hQ61, l61, y61, z61⟩, st61⟩ := X56.privateBack hx (y := MN39) hown (mvT hZ wo193) (mvT hZ wo194) (own_sel (Cond.privateMethod_at (mvP hZ wo195 (args := #[]))) (mvT hZ wo194) (mvT hZ wo122 (args := #[])) (by decide)) (Cond.privateMethod_at (mvP hZ wo195 (args := #[]))) (mvT hZ wo196) (by decide) (backOf (W := 0) (pk_ l Z a0 hw [] ob h56 n0 f62 f60) hZ wo196 wo123 (by decide) (by decide)) (g := (mkF m 137 #[rv ob, rv st_, .val .null, .val .null, rv od, iv (own_hash sd (1 : Int32) c0), iv ((own_hash sd (1 : Int32) c0) &&& 7)] [(.ref ob)])) rfl (by rw [hml]; rfl) (Steps.refl _) (a := ob) (by rw [e56]; exact q61) q61' (argsL := []) (rest := []) (lenOf pd_3 rfl) rfl (by show 2 * 0 + _ ≤ _; exact Nat.le_of_eq rfl) (hb hby d30_137) (fun _ _ => ⟨rfl, e56, (by decide : 0 + 0 ≤ _), (by decide : 0 + 0 ≤ _)⟩)
  dsimp only [Pt.U, Pt.locs, Pt.cells, Pt.slots] at X61 l61 y61 z61 st61 hQ61
  rw [l61, y61, z61] at X61
  obtain ⟨rfl, N61q, K61q⟩ := hQ61
  have N64 := Fr.app N59 N61q
  have f65 := ((hq40_1.other W47 (Or.inl pf_NE_ob_sl)).other W56 (Or.inl pf_NE_ob_va))
  have f66 := (f51.other W56 (Or.inl pf_NE_ob_va))
  have f67 := ((hq40_0.other W47 (Or.inl pf_NE_ob_sl)).other W56 (Or.inl pf_NE_ob_va))
  have f68 := (f49.other W56 pf_NE_sl_va)
  have f69 := ((hq40_7.other W47 (Ne.symm pf_NE_sl_re)).other W56 (Ne.symm pf_NE_va_re))
  have f70 := ((hq40_3.other W47 (Or.inl pf_NE_ob_sl)).other W56 (Or.inl pf_NE_ob_va))
  have f71 := ((hq40_6.other W47 (Or.inl pf_NE_ob_sl)).other W56 (Or.inl pf_NE_ob_va))
  have f72 := ((hq40_5.other W47 (Or.inl pf_NE_ob_sl)).other W56 (Or.inl pf_NE_ob_va))
  obtain ⟨fs, hr, hrun, hended, hW, hsame⟩ := X61.leave (v := none) (fun _ => rfl)
  refine ⟨_, _, pre0 _ ?_, hrun, hended, _, _, rfl, ?_, ⟨_, rfl⟩, hW, hsame.mono (by decide) (by decide)⟩
  · show Steps _ _ _ (State.setTop _ (mkF m 0 #[rv ob, rv st_, .val .null, .val .null, rv od, .unset, .unset] [])) _
    refine XS.aloadN X0.here hx rfl (hb hby d30_0) rfl rfl ?_
    show Steps _ _ _ (State.setTop _ (mkF m 1 #[rv ob, rv st_, .val .null, .val .null, rv od, .unset, .unset] [(.ref ob)])) _
    refine XS.aloadN X0.here hx rfl (hb hby d30_1) rfl rfl ?_
    refine XS.aloadN X0.here hx rfl (hb hby d30_2) rfl rfl ?_
    refine st1.trans ?_
    refine XS.istore X1.here hx rfl (hb hby d30_6) rfl (l' := #[rv ob, rv st_, .val .null, .val .null, rv od, iv (own_hash sd (1 : Int32) c0), .unset]) rfl ?_
    refine XS.aloadN X1.here hx rfl (hb hby d30_8) rfl rfl ?_
    refine XS.iload X1.here hx rfl (hb hby d30_9) rfl ?_
    refine XS.aloadN X1.here hx rfl (hb hby d30_11) rfl rfl ?_
    refine XS.aloadN X1.here hx rfl (hb hby d30_12) rfl rfl ?_
    refine st3.trans ?_
    show Steps _ _ _ (State.setTop _ (mkF m 16 #[rv ob, rv st_, .val .null, .val .null, rv od, iv (own_hash sd (1 : Int32) c0), .unset] [(.int (-1 : Int32))])) _
    refine XS.istore X3.here hx rfl (hb hby d30_16) rfl (l' := #[rv ob, rv st_, .val .null, .val .null, rv od, iv (own_hash sd (1 : Int32) c0), iv (-1 : Int32)]) rfl ?_
    refine XS.iload X3.here hx rfl (hb hby d30_18) rfl ?_
    refine XS.iconst X3.here hx rfl (hb hby d30_20) ?_
    refine XS.icmpNo X3.here hx rfl (hb hby d30_21) rfl (teq (by decide : (-1 : Int32) = (-1 : Int32))).2 ?_
    refine XS.iconst X3.here hx rfl (hb hby d30_24) ?_
    refine XS.aloadN X3.here hx rfl (hb hby d30_25) rfl rfl ?_
    refine st5 _ ?_
    refine XS.iconst X5.here hx rfl (hb hby d30_29) ?_
    refine XS.iadd X5.here hx rfl (hb hby d30_30) rfl ?_
    show Steps _ _ _ (State.setTop _ (mkF m 31 #[rv ob, rv st_, .val .null, .val .null, rv od, iv (own_hash sd (1 : Int32) c0), iv (-1 : Int32)] [(.int 1), (.int 4)])) _
    refine XS.imul X5.here hx rfl (hb hby d30_31) rfl ?_
    refine XS.iconst X5.here hx rfl (hb hby d30_32) ?_
    refine XS.aloadN X5.here hx rfl (hb hby d30_33) rfl rfl ?_
    refine st6 _ ?_
    refine X6.arraylength hx (by rw [e6]; exact Ar7.1) (State.isArrayOf_alike hZ.alike Ar7.2.1) (g := (mkF m 37 #[rv ob, rv st_, .val .null, .val .null, rv od, iv (own_hash sd (1 : Int32) c0), iv (-1 : Int32)] [(.ref va), (.int 3), (.int 4)])) rfl rfl (hb hby d30_37) _ ?_
    rw [len_of Sz7 Nn7]
    show Steps _ _ _ (State.setTop _ (mkF m 38 #[rv ob, rv st_, .val .null, .val .null, rv od, iv (own_hash sd (1 : Int32) c0), iv (-1 : Int32)] [(.int 8), (.int 3), (.int 4)])) _
    refine XS.imul X6.here hx rfl (hb hby d30_38) rfl ?_
    refine XS.icmpYes X6.here hx rfl (pc0 := 39) (pc' := 53) rfl (hb hby d30_39) rfl (flt (by decide : ¬ ((24 : Int32) < 4))).2.2.2 (by decide) (by decide) ?_
    refine XS.aloadN X6.here hx rfl (hb hby d30_53) rfl rfl ?_
    refine XS.iload X6.here hx rfl (hb hby d30_54) rfl ?_
    show Steps _ _ _ (State.setTop _ (mkF m 56 #[rv ob, rv st_, .val .null, .val .null, rv od, iv (own_hash sd (1 : Int32) c0), iv (-1 : Int32)] [(.int (own_hash sd (1 : Int32) c0)), (.ref ob)])) _
    refine st8.trans ?_
    refine XS.istore X8.here hx rfl (hb hby d30_59) rfl (l' := #[rv ob, rv st_, .val .null, .val .null, rv od, iv (own_hash sd (1 : Int32) c0), iv ((own_hash sd (1 : Int32) c0) &&& 7)]) rfl ?_
    refine XS.aloadN X8.here hx rfl (hb hby d30_61) rfl rfl ?_
    refine XS.dup X8.here hx rfl (hb hby d30_62) rfl rfl ?_
    refine st10 _ ?_
    refine XS.iconst X10.here hx rfl (hb hby d30_66) ?_
    refine XS.iadd X10.here hx rfl (hb hby d30_67) rfl ?_
    refine st11 _ ?_
    refine XS.goto X11.here hx rfl (pc0 := 71) (pc' := 98) rfl (hb hby d30_71) (by decide) (by decide) ?_
    show Steps _ _ _ (State.setTop _ (mkF m 98 #[rv ob, rv st_, .val .null, .val .null, rv od, iv (own_hash sd (1 : Int32) c0), iv ((own_hash sd (1 : Int32) c0) &&& 7)] [])) _
    refine XS.aloadN X11.here hx rfl (hb hby d30_98) rfl rfl ?_
    refine st16 _ ?_
    refine XS.iconst X16.here hx rfl (hb hby d30_102) ?_
    refine XS.iload X16.here hx rfl (hb hby d30_103) rfl ?_
    refine XS.imul X16.here hx rfl (hb hby d30_105) rfl ?_
    refine XS.iload X16.here hx rfl (hb hby d30_106) rfl ?_
    refine st20 _ ?_
    refine XS.aloadN X20.here hx rfl (hb hby d30_109) rfl rfl ?_
    refine st25 _ ?_
    show Steps _ _ _ (State.setTop _ (mkF m 113 #[rv ob, rv st_, .val .null, .val .null, rv od, iv (own_hash sd (1 : Int32) c0), iv ((own_hash sd (1 : Int32) c0) &&& 7)] [(.ref sl)])) _
    refine XS.iconst X25.here hx rfl (hb hby d30_113) ?_
    refine XS.iload X25.here hx rfl (hb hby d30_114) rfl ?_
    refine XS.imul X25.here hx rfl (hb hby d30_116) rfl ?_
    refine XS.iconst X25.here hx rfl (hb hby d30_117) ?_
    refine XS.iadd X25.here hx rfl (hb hby d30_118) rfl ?_
    refine XS.aloadN X25.here hx rfl (hb hby d30_119) rfl rfl ?_
    refine XS.aloadN X25.here hx rfl (hb hby d30_120) rfl rfl ?_
    refine XS.aloadN X25.here hx rfl (hb hby d30_121) rfl rfl ?_
    refine XS.aload X25.here hx rfl (hb hby d30_122) rfl rfl ?_
    show Steps _ _ _ (State.setTop _ (mkF m 124 #[rv ob, rv st_, .val .null, .val .null, rv od, iv (own_hash sd (1 : Int32) c0), iv ((own_hash sd (1 : Int32) c0) &&& 7)] [(.ref od), .null, (.ref st_), (.ref ob), (.int (((2 : Int32) * ((own_hash sd (1 : Int32) c0) &&& 7)) + 1)), (.ref sl)])) _
    refine st40.trans ?_
    refine st47 _ ?_
    refine XS.aloadN X47.here hx rfl (hb hby d30_128) rfl rfl ?_
    refine st52 _ ?_
    refine XS.iload X52.here hx rfl (hb hby d30_132) rfl ?_
    refine XS.aloadN X52.here hx rfl (hb hby d30_134) rfl rfl ?_
    refine st56 _ ?_
    refine XS.aloadN X56.here hx rfl (hb hby d30_136) rfl rfl ?_
    refine st61.trans ?_
    show Steps _ _ _ (State.setTop _ (mkF m 140 #[rv ob, rv st_, .val .null, .val .null, rv od, iv (own_hash sd (1 : Int32) c0), iv ((own_hash sd (1 : Int32) c0) &&& 7)] [])) _
    exact X61.returnOut hx Bd.returns (hb hby d30_140) hr
  · show Q_pu_1 Z _ _ _ _ _ _ _ _ _ _ _ _ _ _ _ _ h0 n0 _ T61.heap _
    rw [K61q]
    exact ⟨(own_w2 SL ((own_hash sd (1 : Int32) c0) &&& 7) (own_hash sd (1 : Int32) c0) u_), (own_wr RL u_ n_ OL (1 : Int32) c0), rfl, N64, (K57), f65, f66, f67, f68, f58, f69, f70, f71, f60, f72, own_T01 hT hu hn hOL⟩
theorem ef_pu_2 (m : MethodId) (x0 x1 x4 : Addr) : entryFrame m #[(.ref x0), (.ref x1), .null, .null, (.ref x4)] 7 = mkF m 0 #[rv x0, rv x1, .val .null, .val .null, rv x4, .unset, .unset] [] := by first | (simp [entryFrame, mkF, argsToLocals, Value.category]; done) | rfl
def Q_pu_2 (Z : State) (ob sl va re : Addr) (SL RL : List Int32) (sd u_ : Int32) (od : Addr) (OL : List Int32) (n_ ha_ ua_ na_ : Int32) (Oa_ : List Int32) (wa_ : Int32) (st_ sv_ : Addr) (c0 c1 cs : Int32) (fm : Value) (h0 : Heap) (n0 : Nat) (v : Option Value) (h : Heap) (L : List Loc) : Prop := ∃ (SL2 : List Int32) (RL2 : List Int32), v = none ∧ Fr n0 L ∧ Keep h0 h [ob, sl, va, re] ∧ (Fld Z h ob "com/example/arbiter/arbiter/OrdinalTable" "slots" "[I" (.ref sl)) ∧ (Fld Z h ob "com/example/arbiter/arbiter/OrdinalTable" "values" "[Ljava/lang/Object;" (.ref va)) ∧ (Fld Z h ob "com/example/arbiter/arbiter/OrdinalTable" "records" "[I" (.ref re)) ∧ (Av Z h sl .int 16 (own_cv SL2) (.int 0)) ∧ (Al Z h va (.object "java/lang/Object") (8 : Int32)) ∧ (Av Z h re .int 64 (own_cv RL2) (.int 0)) ∧ (Fld Z h ob "com/example/arbiter/arbiter/OrdinalTable" "seed" "I" (.int sd)) ∧ (Fld Z h ob "com/example/arbiter/arbiter/OrdinalTable" "used" "I" (.int (((((u_ + 1) + n_) + 1) + 1) + 1))) ∧ (Fld Z h ob "com/example/arbiter/arbiter/OrdinalTable" "unused" "I" (.int 0)) ∧ (Fld Z h ob "com/example/arbiter/arbiter/OrdinalTable" "size" "I" (.int 2)) ∧ (own_T2 SL2 RL2 ha_ ua_ na_ Oa_ wa_ (own_hash sd (2 : Int32) (c0 ||| (c1 <<< ((16 : Int32) &&& 31)))) u_ n_ OL (c0 ||| (c1 <<< ((16 : Int32) &&& 31))))
set_option maxRecDepth 65536 in
set_option maxHeartbeats 40000000 in
theorem pu_2 (l : Launch) (Z : State) (a0 : Array Value) (hw : ∀ d ∈ tables_1, d.before a0 Z = true) (ws : List Jvm.Cond) (ob sl va re : Addr) (SL RL : List Int32) (sd u_ : Int32) (od : Addr) (OL : List Int32) (n_ ha_ ua_ na_ : Int32) (Oa_ : List Int32) (wa_ : Int32) (st_ sv_ : Addr) (c0 c1 cs : Int32) (fm : Value) (h0 : Heap) (n0 : Nat) (Z0 : n0 ≤ h0.size) (pf_O : Old Z n0 h0) (pS_COMPAC : Sta Z Z.heap "java/lang/String" "COMPACT_STRINGS" "Z" (.int cs)) (hcs : ¬ (cs = 0)) (pS_SIOOBE : Sta Z Z.heap "jdk/internal/util/Preconditions" "SIOOBE_FORMATTER" "Ljava/util/function/BiFunction;" fm) (rfm : fm.isRef = true) (pf_E_st_ : Exa Z h0 st_ "java/lang/String") (pf_F_st__value : Fld Z h0 st_ "java/lang/String" "value" "[B" (.ref sv_)) (pf_F_st__coder : Fld Z h0 st_ "java/lang/String" "coder" "B" (.int 0)) (pf_A_sv_ : Av Z h0 sv_ .byte (2 : Int32) (own_vs [c0, c1]) (.int 0)) (hrA : ∀ c ∈ ([c0, c1] : List Int32), ¬ c < 0 ∧ ¬ (255 : Int32) < c) (pf_E_ob : Exa Z h0 ob "com/example/arbiter/arbiter/OrdinalTable") (pf_F_ob_slots : Fld Z h0 ob "com/example/arbiter/arbiter/OrdinalTable" "slots" "[I" (.ref sl)) (pf_F_ob_values : Fld Z h0 ob "com/example/arbiter/arbiter/OrdinalTable" "values" "[Ljava/lang/Object;" (.ref va)) (pf_F_ob_records : Fld Z h0 ob "com/example/arbiter/arbiter/OrdinalTable" "records" "[I" (.ref re)) (pf_A_sl : Av Z h0 sl .int 16 (own_cv SL) (.int 0)) (pf_L_va : Al Z h0 va (.object "java/lang/Object") (8 : Int32)) (pf_A_re : Av Z h0 re .int 64 (own_cv RL) (.int 0)) (pf_F_ob_seed : Fld Z h0 ob "com/example/arbiter/arbiter/OrdinalTable" "seed" "I" (.int sd)) (pf_F_ob_used : Fld Z h0 ob "com/example/arbiter/arbiter/OrdinalTable" "used" "I" (.int u_)) (pf_F_ob_unused : Fld Z h0 ob "com/example/arbiter/arbiter/OrdinalTable" "unused" "I" (.int 0)) (pf_F_ob_size : Fld Z h0 ob "com/example/arbiter/arbiter/OrdinalTable" "size" "I" (.int 1)) (pf_A_od : Av Z h0 od .int n_ (own_cv OL) (.int 0)) (hu : 0 < u_.toInt ∧ u_.toInt < 20) (hn : 0 < n_.toInt ∧ n_.toInt < 5) (hOL : OL.length = n_.toNatClampNeg) (hT : own_T1 SL RL ha_ ua_ na_ Oa_ wa_) (hu1 : 0 < ua_.toInt ∧ ua_.toInt < 20) (hn1 : 0 < na_.toInt ∧ na_.toInt < 5) (hu2 : u_.toInt = ua_.toInt + 4 + na_.toInt) (pf_G_ob : n0 ≤ ob) (pf_G_sl : n0 ≤ sl) (pf_G_va : n0 ≤ va) (pf_G_re : n0 ≤ re) (pf_NE_ob_sl : ob ≠ sl) (pf_NE_ob_va : ob ≠ va) (pf_NE_ob_re : ob ≠ re) (pf_NE_sl_va : sl ≠ va) (pf_NE_sl_re : sl ≠ re) (pf_NE_va_re : va ≠ re) (pf_NE_st__ob : st_ ≠ ob) (pf_NE_st__sl : st_ ≠ sl) (pf_NE_st__va : st_ ≠ va) (pf_NE_st__re : st_ ≠ re) (pf_NE_sv__ob : sv_ ≠ ob) (pf_NE_sv__sl : sv_ ≠ sl) (pf_NE_sv__va : sv_ ≠ va) (pf_NE_sv__re : sv_ ≠ re) (pf_NE_od_ob : od ≠ ob) (pf_NE_od_sl : od ≠ sl) (pf_NE_od_va : od ≠ va) (pf_NE_od_re : od ≠ re) :
    MetFree l MN30 (head1 (Jvm.Cond.code MN30 prog_25_method_19_code 7 none :: ws) (Room.mk 7 0 0 106)) (fun a U => a = #[(.ref ob), (.ref st_), .null, .null, (.ref od)] ∧ Z.Warmed39 U.vm ∧ U.heap = h0) (fun _ _ _ _ _ => True) (fun _ U o U' => ∃ v L, o = .returned v ∧ Q_pu_2 Z ob sl va re SL RL sd u_ od OL n_ ha_ ua_ na_ Oa_ wa_ st_ sv_ c0 c1 cs fm h0 n0 v U'.heap L ∧ FrameEnd U o U' L (Room.mk 7 0 0 106).cells (Room.mk 7 0 0 106).slots) := by
  refine MetFree.of_bodySF (plainFor_of_name pn_com_example_arbiter_arbiter_OrdinalTable) hisR ?_
  intro p e s m args below meth c s₁ Bd hml0 hP hK
  obtain ⟨rfl, hZ, hh⟩ := hP
  have hx := Bd.exec
  have hby := Bd.bytes
  have hml : c.maxLocals = 7 := hml0
  have hown : s.vm.findClass "com/example/arbiter/arbiter/OrdinalTable" = some m.cls := findClass_of_methodNamed Bd.named
  have hnm := (name_of_methodNamed Bd.named Bd.method).1
  have X0 : Stand p l e (Room.mk 7 0 0 106) s m #[(.ref ob), (.ref st_), .null, .null, (.ref od)] below meth c s₁ [] 0 0 := Stand.of_body Bd
  have e0 : s₁.heap = h0 := by rw [← hh, Bd.state]; rfl
  have N0 := Fr.nil n0
  have pre0 : ∀ t, Steps p.tables e below (s₁.setTop (mkF m 0 #[rv ob, rv st_, .val .null, .val .null, rv od, .unset, .unset] [])) t → Steps p.tables e below (s₁.setTop (entryFrame m #[(.ref ob), (.ref st_), .null, .null, (.ref od)] 7)) t := fun t k => castTop (ef_pu_2 m ob st_ od) k
  have wo122 := hw _ (own_m 122 rfl)
  have wo123 := hw _ (own_m 123 rfl)
  have wo128 := hw _ (own_m 128 rfl)
  have wo129 := hw _ (own_m 129 rfl)
  have wo132 := hw _ (own_m 132 rfl)
  have wo133 := hw _ (own_m 133 rfl)
  have wo135 := hw _ (own_m 135 rfl)
  have wo137 := hw _ (own_m 137 rfl)
  have wo139 := hw _ (own_m 139 rfl)
  have wo154 := hw _ (own_m 154 rfl)
  have wo155 := hw _ (own_m 155 rfl)
  have wo156 := hw _ (own_m 156 rfl)
  have wo157 := hw _ (own_m 157 rfl)
  have wo168 := hw _ (own_m 168 rfl)
  have wo169 := hw _ (own_m 169 rfl)
  have wo170 := hw _ (own_m 170 rfl)
  have wo171 := hw _ (own_m 171 rfl)
  have wo172 := hw _ (own_m 172 rfl)
  have wo173 := hw _ (own_m 173 rfl)
  have wo174 := hw _ (own_m 174 rfl)
  have wo175 := hw _ (own_m 175 rfl)
  have wo176 := hw _ (own_m 176 rfl)
  have wo177 := hw _ (own_m 177 rfl)
  have wo178 := hw _ (own_m 178 rfl)
  have wo179 := hw _ (own_m 179 rfl)
  have wo180 := hw _ (own_m 180 rfl)
  have wo181 := hw _ (own_m 181 rfl)
  have wo193 := hw _ (own_m 193 rfl)
  have wo194 := hw _ (own_m 194 rfl)
  have wo195 := hw _ (own_m 195 rfl)
  have wo196 := hw _ (own_m 196 rfl)
  have wo198 := hw _ (own_m 198 rfl)
  obtain ⟨cq1, q1, q1'⟩ := pf_E_ob.cell
  obtain ⟨_, _, ⟨T1, L1, k1, n1⟩, -, X1, ⟨Lc1, hQ1, l1, y1, z1⟩, st1⟩ := X0.privateBack hx (y := MN31) hown (mvT hZ wo154) (mvT hZ wo155) (own_sel (Cond.privateMethod_at (mvP hZ wo156 (args := #[]))) (mvT hZ wo155) (mvT hZ wo122 (args := #[])) (by decide)) (Cond.privateMethod_at (mvP hZ wo156 (args := #[]))) (mvT hZ wo157) (by decide) (backOf (W := 0) (ha_2 l Z a0 hw [] ob sd st_ sv_ c0 c1 cs fm h0 n0 Z0 pf_O pS_COMPAC hcs pS_SIOOBE rfm pf_E_st_ pf_F_st__value pf_F_st__coder pf_A_sv_ hrA pf_F_ob_seed) hZ wo157 wo123 (by decide) (by decide)) (g := (mkF m 3 #[rv ob, rv st_, .val .null, .val .null, rv od, .unset, .unset] [.null, (.ref st_), (.ref ob)])) rfl (by rw [hml]; rfl) (Steps.refl _) (a := ob) (by rw [e0]; exact q1) q1' (argsL := [(.ref st_), .null]) (rest := []) (lenOf pd_29 rfl) rfl (by show 2 * 0 + _ ≤ _; exact Nat.le_of_eq rfl) (hb hby d30_3) (fun _ _ => ⟨rfl, e0, (by decide : 0 + 0 ≤ _), (by decide : 0 + 0 ≤ _)⟩)
  dsimp only [Pt.U, Pt.locs, Pt.cells, Pt.slots] at X1 l1 y1 z1 st1 hQ1
  rw [l1, y1, z1] at X1
  obtain ⟨rfl, N1q, K1q⟩ := hQ1
  have N2 := Fr.app N0 N1q
  obtain ⟨cq3, q3, q3'⟩ := pf_E_ob.cell
  obtain ⟨_, _, ⟨T3, L3, k3, n3⟩, -, X3, ⟨Lc3, hQ3, l3, y3, z3⟩, st3⟩ := X1.privateBack hx (y := MN34) hown (mvT hZ wo168) (mvT hZ wo169) (own_sel (Cond.privateMethod_at (mvP hZ wo170 (args := #[]))) (mvT hZ wo169) (mvT hZ wo122 (args := #[])) (by decide)) (Cond.privateMethod_at (mvP hZ wo170 (args := #[]))) (mvT hZ wo171) (by decide) (backOf (W := 0) (fi_2a l Z a0 hw [] ob sl va re SL RL (own_hash sd (2 : Int32) (c0 ||| (c1 <<< ((16 : Int32) &&& 31)))) ha_ ua_ na_ Oa_ wa_ st_ sv_ c0 c1 cs fm h0 n0 Z0 pf_O pS_COMPAC hcs pS_SIOOBE rfm pf_E_st_ pf_F_st__value pf_F_st__coder pf_A_sv_ hrA pf_E_ob pf_F_ob_slots pf_F_ob_values pf_F_ob_records pf_A_sl pf_L_va pf_A_re hT hu1 hn1) hZ wo171 wo123 (by decide) (by decide)) (g := (mkF m 13 #[rv ob, rv st_, .val .null, .val .null, rv od, iv (own_hash sd (2 : Int32) (c0 ||| (c1 <<< ((16 : Int32) &&& 31)))), .unset] [.null, (.ref st_), (.int (own_hash sd (2 : Int32) (c0 ||| (c1 <<< ((16 : Int32) &&& 31))))), (.ref ob)])) rfl (by rw [hml]; rfl) (Steps.refl _) (a := ob) (by rw [K1q]; exact q3) q3' (argsL := [(.int (own_hash sd (2 : Int32) (c0 ||| (c1 <<< ((16 : Int32) &&& 31))))), (.ref st_), .null]) (rest := []) (lenOf pd_19 rfl) rfl (by show 2 * 0 + _ ≤ _; exact Nat.le_of_eq rfl) (hb hby d30_13) (fun _ _ => ⟨rfl, K1q, (by decide : 0 + 0 ≤ _), (by decide : 0 + 0 ≤ _)⟩)
  dsimp only [Pt.U, Pt.locs, Pt.cells, Pt.slots] at X3 l3 y3 z3 st3 hQ3
  rw [l3, y3, z3] at X3
  obtain ⟨rfl, N3q, K3q⟩ := hQ3
  have N4 := Fr.app N2 N3q
  obtain ⟨T5, X5, e5, st5⟩ := getF X3 hx hZ hown (host := "") (Or.inl wo172) Via.refl K3q pf_F_ob_size (g := (mkF m 26 #[rv ob, rv st_, .val .null, .val .null, rv od, iv (own_hash sd (2 : Int32) (c0 ||| (c1 <<< ((16 : Int32) &&& 31)))), iv (-1 : Int32)] [(.ref ob), (.int 4)])) rfl rfl (hb hby d30_26)
  obtain ⟨T6, X6, e6, st6⟩ := getF X5 hx hZ hown (host := "") (Or.inl wo132) Via.refl e5 pf_F_ob_values (g := (mkF m 34 #[rv ob, rv st_, .val .null, .val .null, rv od, iv (own_hash sd (2 : Int32) (c0 ||| (c1 <<< ((16 : Int32) &&& 31)))), iv (-1 : Int32)] [(.ref ob), (.int 3), (.int 8)])) rfl rfl (hb hby d30_34)
  obtain ⟨cl7, Ar7, Sz7, Nn7⟩ := id pf_L_va
  obtain ⟨cq8, q8, q8'⟩ := pf_E_ob.cell
  obtain ⟨_, _, ⟨T8, L8, k8, n8⟩, -, X8, ⟨Lc8, hQ8, l8, y8, z8⟩, st8⟩ := X6.privateBack hx (y := MN35) hown (mvT hZ wo174) (mvT hZ wo175) (own_sel (Cond.privateMethod_at (mvP hZ wo176 (args := #[]))) (mvT hZ wo175) (mvT hZ wo122 (args := #[])) (by decide)) (Cond.privateMethod_at (mvP hZ wo176 (args := #[]))) (mvT hZ wo177) (by decide) (backOf (W := 0) (es_2 l Z a0 hw [] ob sl va re SL RL (own_hash sd (2 : Int32) (c0 ||| (c1 <<< ((16 : Int32) &&& 31)))) ha_ ua_ na_ Oa_ wa_ h0 n0 Z0 pf_E_ob pf_F_ob_slots pf_F_ob_values pf_F_ob_records pf_A_sl pf_L_va pf_A_re hT hu1) hZ wo177 wo123 (by decide) (by decide)) (g := (mkF m 56 #[rv ob, rv st_, .val .null, .val .null, rv od, iv (own_hash sd (2 : Int32) (c0 ||| (c1 <<< ((16 : Int32) &&& 31)))), iv (-1 : Int32)] [(.int (own_hash sd (2 : Int32) (c0 ||| (c1 <<< ((16 : Int32) &&& 31))))), (.ref ob)])) rfl (by rw [hml]; rfl) (Steps.refl _) (a := ob) (by rw [e6]; exact q8) q8' (argsL := [(.int (own_hash sd (2 : Int32) (c0 ||| (c1 <<< ((16 : Int32) &&& 31)))))]) (rest := []) (lenOf pd_9 rfl) rfl (by show 2 * 0 + _ ≤ _; exact Nat.le_of_eq rfl) (hb hby d30_56) (fun _ _ => ⟨rfl, e6, (by decide : 0 + 0 ≤ _), (by decide : 0 + 0 ≤ _)⟩)
  dsimp only [Pt.U, Pt.locs, Pt.cells, Pt.slots] at X8 l8 y8 z8 st8 hQ8
  rw [l8, y8, z8] at X8
  obtain ⟨rfl, N8q, K8q⟩ := hQ8
  have N9 := Fr.app N4 N8q
  obtain ⟨T10, X10, e10, st10⟩ := getF X8 hx hZ hown (host := "") (Or.inl wo172) Via.refl K8q pf_F_ob_size (g := (mkF m 63 #[rv ob, rv st_, .val .null, .val .null, rv od, iv (own_hash sd (2 : Int32) (c0 ||| (c1 <<< ((16 : Int32) &&& 31)))), iv (own_sl2 (own_hash sd (2 : Int32) (c0 ||| (c1 <<< ((16 : Int32) &&& 31)))) (ha_ &&& 7))] [(.ref ob), (.ref ob)])) rfl rfl (hb hby d30_63)
  obtain ⟨T11, h11, X11, e11, W11, st11⟩ := putF X10 hx hZ hown (host := "") (Or.inl wo172) Via.refl e10 pf_F_ob_size pf_E_ob (Or.inl wo173) wo122 (ty := .int) (by decide) rfl rfl (g := (mkF m 68 #[rv ob, rv st_, .val .null, .val .null, rv od, iv (own_hash sd (2 : Int32) (c0 ||| (c1 <<< ((16 : Int32) &&& 31)))), iv (own_sl2 (own_hash sd (2 : Int32) (c0 ||| (c1 <<< ((16 : Int32) &&& 31)))) (ha_ &&& 7))] [(.int 2), (.ref ob)])) rfl rfl (hb hby d30_68)
  have K12 : Keep h0 h11 [ob, sl, va, re] := (Keep.refl h0 [ob, sl, va, re]).wr W11 (Or.inl (own_m 0 rfl))
  have f13 : Fld Z h11 ob "com/example/arbiter/arbiter/OrdinalTable" "size" "I" (.int 2) := pf_F_ob_size.same W11
  have N14 := Fr.snoc X11 N9 pf_G_ob
  have f15 := (pf_F_ob_slots.other W11 (Or.inr (slot_ne (Or.inl wo129) (Or.inl wo173) (by decide) (t := (.array .int)) (t' := .int) (by decide) (by decide))))
  obtain ⟨T16, X16, e16, st16⟩ := getF X11 hx hZ hown (host := "") (Or.inl wo128) Via.refl e11 f15 (g := (mkF m 99 #[rv ob, rv st_, .val .null, .val .null, rv od, iv (own_hash sd (2 : Int32) (c0 ||| (c1 <<< ((16 : Int32) &&& 31)))), iv (own_sl2 (own_hash sd (2 : Int32) (c0 ||| (c1 <<< ((16 : Int32) &&& 31)))) (ha_ &&& 7))] [(.ref ob)])) rfl rfl (hb hby d30_99)
  have f17 := (pf_A_sl.other W11 (Ne.symm pf_NE_ob_sl))
  obtain ⟨kk18, cl18, Ar18, qq18, Sz18, Nn18, Hs18, Gf18⟩ := id f17
  have hin19 : ¬ (((2 : Int32) * (own_sl2 (own_hash sd (2 : Int32) (c0 ||| (c1 <<< ((16 : Int32) &&& 31)))) (ha_ &&& 7))) < 0 ∨ cl18.slots.size ≤ (((2 : Int32) * (own_sl2 (own_hash sd (2 : Int32) (c0 ||| (c1 <<< ((16 : Int32) &&& 31)))) (ha_ &&& 7)))).toNatClampNeg) := inb_of Sz18 (own_i0 (own_sl2r _ _))
  obtain ⟨T20, h20, X20, e20, W20, st20⟩ := stI X16 hx hZ e16 Ar18 (j := ((2 : Int32) * (own_sl2 (own_hash sd (2 : Int32) (c0 ||| (c1 <<< ((16 : Int32) &&& 31)))) (ha_ &&& 7)))) hin19 (g := (mkF m 108 #[rv ob, rv st_, .val .null, .val .null, rv od, iv (own_hash sd (2 : Int32) (c0 ||| (c1 <<< ((16 : Int32) &&& 31)))), iv (own_sl2 (own_hash sd (2 : Int32) (c0 ||| (c1 <<< ((16 : Int32) &&& 31)))) (ha_ &&& 7))] [(.int (own_hash sd (2 : Int32) (c0 ||| (c1 <<< ((16 : Int32) &&& 31))))), (.int ((2 : Int32) * (own_sl2 (own_hash sd (2 : Int32) (c0 ||| (c1 <<< ((16 : Int32) &&& 31)))) (ha_ &&& 7)))), (.ref sl)])) rfl rfl (hb hby d30_108)
  have K21 : Keep h0 h20 [ob, sl, va, re] := (K12).wr W20 (Or.inl (own_m 1 rfl))
  have f22 : Av Z h20 sl .int 16 (own_cv (own_s SL ((2 : Int32) * (own_sl2 (own_hash sd (2 : Int32) (c0 ||| (c1 <<< ((16 : Int32) &&& 31)))) (ha_ &&& 7))) (own_hash sd (2 : Int32) (c0 ||| (c1 <<< ((16 : Int32) &&& 31)))))) (.int 0) := by rw [← own_cvs]; exact ⟨_, Arv.set Ar18 qq18 Sz18 Nn18 Hs18 Gf18 rfl W20 _ rfl (own_ltp Sz18 hin19 hT.1)⟩
  have N23 := Fr.snoc X20 N14 pf_G_sl
  have f24 := (f15.other W20 (Or.inl pf_NE_ob_sl))
  obtain ⟨T25, X25, e25, st25⟩ := getF X20 hx hZ hown (host := "") (Or.inl wo128) Via.refl e20 f24 (g := (mkF m 110 #[rv ob, rv st_, .val .null, .val .null, rv od, iv (own_hash sd (2 : Int32) (c0 ||| (c1 <<< ((16 : Int32) &&& 31)))), iv (own_sl2 (own_hash sd (2 : Int32) (c0 ||| (c1 <<< ((16 : Int32) &&& 31)))) (ha_ &&& 7))] [(.ref ob)])) rfl rfl (hb hby d30_110)
  have f26 := ((pf_O.wr W11 pf_G_ob).wr W20 pf_G_sl)
  have f27 := ((pf_E_st_.wr W11).wr W20)
  have f28 := ((pf_F_st__value.other W11 (Or.inl pf_NE_st__ob)).other W20 (Or.inl pf_NE_st__sl))
  have f29 := ((pf_F_st__coder.other W11 (Or.inl pf_NE_st__ob)).other W20 (Or.inl pf_NE_st__sl))
  have f30 := ((pf_A_sv_.other W11 pf_NE_sv__ob).other W20 pf_NE_sv__sl)
  have f31 := ((pf_E_ob.wr W11).wr W20)
  have f32 := ((pf_F_ob_records.other W11 (Or.inr (slot_ne (Or.inl wo135) (Or.inl wo173) (by decide) (t := (.array .int)) (t' := .int) (by decide) (by decide)))).other W20 (Or.inl pf_NE_ob_sl))
  have f33 := ((pf_A_re.other W11 (Ne.symm pf_NE_ob_re)).other W20 (Ne.symm pf_NE_sl_re))
  have f34 := ((pf_F_ob_used.other W11 (Or.inr (slot_ne (Or.inl wo137) (Or.inl wo173) (by decide) (t := .int) (t' := .int) (by decide) (by decide)))).other W20 (Or.inl pf_NE_ob_sl))
  have f35 := ((pf_F_ob_values.other W11 (Or.inr (slot_ne (Or.inl wo133) (Or.inl wo173) (by decide) (t := (.array (.object "java/lang/Object"))) (t' := .int) (by decide) (by decide)))).other W20 (Or.inl pf_NE_ob_sl))
  have f36 := ((pf_F_ob_seed.other W11 (Or.inr (slot_ne (Or.inr wo139) (Or.inl wo173) (by decide) (t := .int) (t' := .int) (by decide) (by decide)))).other W20 (Or.inl pf_NE_ob_sl))
  have f37 := ((pf_F_ob_unused.other W11 (Or.inr (slot_ne (Or.inl wo198) (Or.inl wo173) (by decide) (t := .int) (t' := .int) (by decide) (by decide)))).other W20 (Or.inl pf_NE_ob_sl))
  have f38 := (f13.other W20 (Or.inl pf_NE_ob_sl))
  have f39 := ((pf_A_od.other W11 pf_NE_od_ob).other W20 pf_NE_od_sl)
  have f41 := (Nat.le_trans (Nat.le_trans Z0 (Keep.of_wr W11).1) (Keep.of_wr W20).1)
  obtain ⟨cq40, q40, q40'⟩ := f31.cell
  obtain ⟨_, _, ⟨T40, L40, k40, n40⟩, -, X40, ⟨Lc40, hQ40, l40, y40, z40⟩, st40⟩ := X25.privateBack hx (y := MN36) hown (mvT hZ wo178) (mvT hZ wo179) (own_sel (Cond.privateMethod_at (mvP hZ wo180 (args := #[]))) (mvT hZ wo179) (mvT hZ wo122 (args := #[])) (by decide)) (Cond.privateMethod_at (mvP hZ wo180 (args := #[]))) (mvT hZ wo181) (by decide) (backOf (W := 2) (wr_2 l Z a0 hw [] ob re RL u_ sl va sd (2 : Int32) od OL n_ st_ sv_ c0 c1 cs fm h20 n0 f41 f26 pS_COMPAC hcs pS_SIOOBE rfm f27 f28 f29 f30 hrA f31 f32 f33 f34 f24 f35 f36 f37 f38 hT.2.1 f39 hu hn hOL pf_G_ob pf_G_re pf_NE_ob_re pf_NE_st__ob pf_NE_st__re pf_NE_sv__ob pf_NE_sv__re pf_NE_od_ob pf_NE_od_re) hZ wo181 wo123 (by decide) (by decide)) (g := (mkF m 124 #[rv ob, rv st_, .val .null, .val .null, rv od, iv (own_hash sd (2 : Int32) (c0 ||| (c1 <<< ((16 : Int32) &&& 31)))), iv (own_sl2 (own_hash sd (2 : Int32) (c0 ||| (c1 <<< ((16 : Int32) &&& 31)))) (ha_ &&& 7))] [(.ref od), .null, (.ref st_), (.ref ob), (.int (((2 : Int32) * (own_sl2 (own_hash sd (2 : Int32) (c0 ||| (c1 <<< ((16 : Int32) &&& 31)))) (ha_ &&& 7))) + 1)), (.ref sl)])) rfl (by rw [hml]; rfl) (Steps.refl _) (a := ob) (by rw [e25]; exact q40) q40' (argsL := [(.ref st_), .null, (.ref od)]) (rest := [(.int (((2 : Int32) * (own_sl2 (own_hash sd (2 : Int32) (c0 ||| (c1 <<< ((16 : Int32) &&& 31)))) (ha_ &&& 7))) + 1)), (.ref sl)]) (lenOf pd_31 rfl) rfl (by show 2 * 0 + _ ≤ _; exact Nat.le_of_eq rfl) (hb hby d30_124) (fun _ _ => ⟨rfl, e25, (by decide : 0 + 0 ≤ _), (by decide : 0 + 0 ≤ _)⟩)
  dsimp only [Pt.U, Pt.locs, Pt.cells, Pt.slots] at X40 l40 y40 z40 st40 hQ40
  rw [l40, y40, z40] at X40
  obtain ⟨rfl, N40q, K40q, hq40_0, hq40_1, hq40_2, hq40_3, hq40_4, hq40_5, hq40_6, hq40_7⟩ := hQ40
  have N42 := Fr.app N23 N40q
  have K43 : Keep h0 T40.heap [ob, sl, va, re] := (K21).trans K40q (allS (P := fun x => x ∈ [ob, sl, va, re] ∨ h0.size ≤ x) (Or.inl (own_m 0 rfl)) (allS (P := fun x => x ∈ [ob, sl, va, re] ∨ h0.size ≤ x) (Or.inl (own_m 3 rfl)) all0))
  have f44 := (f22.keep K40q (ninS (Ne.symm pf_NE_ob_sl) (ninS pf_NE_sl_re nin0)))
  obtain ⟨kk45, cl45, Ar45, qq45, Sz45, Nn45, Hs45, Gf45⟩ := id f44
  have hin46 : ¬ ((((2 : Int32) * (own_sl2 (own_hash sd (2 : Int32) (c0 ||| (c1 <<< ((16 : Int32) &&& 31)))) (ha_ &&& 7))) + 1) < 0 ∨ cl45.slots.size ≤ ((((2 : Int32) * (own_sl2 (own_hash sd (2 : Int32) (c0 ||| (c1 <<< ((16 : Int32) &&& 31)))) (ha_ &&& 7))) + 1)).toNatClampNeg) := inb_of Sz45 (own_i1 (own_sl2r _ _))
  obtain ⟨T47, h47, X47, e47, W47, st47⟩ := stI X40 hx hZ rfl Ar45 (j := (((2 : Int32) * (own_sl2 (own_hash sd (2 : Int32) (c0 ||| (c1 <<< ((16 : Int32) &&& 31)))) (ha_ &&& 7))) + 1)) hin46 (g := (mkF m 127 #[rv ob, rv st_, .val .null, .val .null, rv od, iv (own_hash sd (2 : Int32) (c0 ||| (c1 <<< ((16 : Int32) &&& 31)))), iv (own_sl2 (own_hash sd (2 : Int32) (c0 ||| (c1 <<< ((16 : Int32) &&& 31)))) (ha_ &&& 7))] [(.int u_), (.int (((2 : Int32) * (own_sl2 (own_hash sd (2 : Int32) (c0 ||| (c1 <<< ((16 : Int32) &&& 31)))) (ha_ &&& 7))) + 1)), (.ref sl)])) rfl rfl (hb hby d30_127)
  have K48 : Keep h0 h47 [ob, sl, va, re] := (K43).wr W47 (Or.inl (own_m 1 rfl))
  have f49 : Av Z h47 sl .int 16 (own_cv (own_s (own_s SL ((2 : Int32) * (own_sl2 (own_hash sd (2 : Int32) (c0 ||| (c1 <<< ((16 : Int32) &&& 31)))) (ha_ &&& 7))) (own_hash sd (2 : Int32) (c0 ||| (c1 <<< ((16 : Int32) &&& 31))))) (((2 : Int32) * (own_sl2 (own_hash sd (2 : Int32) (c0 ||| (c1 <<< ((16 : Int32) &&& 31)))) (ha_ &&& 7))) + 1) u_)) (.int 0) := by rw [← own_cvs]; exact ⟨_, Arv.set Ar45 qq45 Sz45 Nn45 Hs45 Gf45 rfl W47 _ rfl (own_ltp Sz45 hin46 ((own_sl _ _ _).trans hT.1))⟩
  have N50 := Fr.snoc X47 N42 pf_G_sl
  have f51 := (hq40_2.other W47 (Or.inl pf_NE_ob_sl))
  obtain ⟨T52, X52, e52, st52⟩ := getF X47 hx hZ hown (host := "") (Or.inl wo132) Via.refl e47 f51 (g := (mkF m 129 #[rv ob, rv st_, .val .null, .val .null, rv od, iv (own_hash sd (2 : Int32) (c0 ||| (c1 <<< ((16 : Int32) &&& 31)))), iv (own_sl2 (own_hash sd (2 : Int32) (c0 ||| (c1 <<< ((16 : Int32) &&& 31)))) (ha_ &&& 7))] [(.ref ob)])) rfl rfl (hb hby d30_129)
  have f53 := ((((pf_L_va.other W11 (Ne.symm pf_NE_ob_va)).other W20 (Ne.symm pf_NE_sl_va)).keep K40q (ninS (Ne.symm pf_NE_ob_va) (ninS pf_NE_va_re nin0))).other W47 (Ne.symm pf_NE_sl_va))
  obtain ⟨cl54, Ar54, Sz54, Nn54⟩ := id f53
  have hin55 : ¬ ((own_sl2 (own_hash sd (2 : Int32) (c0 ||| (c1 <<< ((16 : Int32) &&& 31)))) (ha_ &&& 7)) < 0 ∨ cl54.slots.size ≤ ((own_sl2 (own_hash sd (2 : Int32) (c0 ||| (c1 <<< ((16 : Int32) &&& 31)))) (ha_ &&& 7))).toNatClampNeg) := inb_of Sz54 (own_in (own_sl2r _ _))
  obtain ⟨T56, h56, X56, e56, W56, st56⟩ := stR X52 hx hZ e52 Ar54 (j := (own_sl2 (own_hash sd (2 : Int32) (c0 ||| (c1 <<< ((16 : Int32) &&& 31)))) (ha_ &&& 7))) hin55 rfl (Or.inl rfl) (g := (mkF m 135 #[rv ob, rv st_, .val .null, .val .null, rv od, iv (own_hash sd (2 : Int32) (c0 ||| (c1 <<< ((16 : Int32) &&& 31)))), iv (own_sl2 (own_hash sd (2 : Int32) (c0 ||| (c1 <<< ((16 : Int32) &&& 31)))) (ha_ &&& 7))] [.null, (.int (own_sl2 (own_hash sd (2 : Int32) (c0 ||| (c1 <<< ((16 : Int32) &&& 31)))) (ha_ &&& 7))), (.ref va)])) rfl rfl (hb hby d30_135)
  have K57 : Keep h0 h56 [ob, sl, va, re] := (K48).wr W56 (Or.inl (own_m 2 rfl))
  have f58 : Al Z h56 va (.object "java/lang/Object") (8 : Int32) := Al.same ⟨cl54, Ar54, Sz54, Nn54⟩ W56
  have N59 := Fr.snoc X56 N50 pf_G_va
  have f60 := ((hq40_4.other W47 (Or.inl pf_NE_ob_sl)).other W56 (Or.inl pf_NE_ob_va))
  have f62 := (Nat.le_trans (Nat.le_trans (Nat.le_trans f41 K40q.1) (Keep.of_wr W47).1) (Keep.of_wr W56).1)
  have f63 := (((f31.keep K40q).wr W47).wr W56)
  obtain ⟨cq61, q61, q61'⟩ := f63.cell
  obtain ⟨_, _, ⟨T61, L61, k61, n61⟩, -, X61, ⟨Lc61, hQ61, l61, y61, z61⟩, st61⟩ := X56.privateBack hx (y := MN39) hown (mvT hZ wo193) (mvT hZ wo194) (own_sel (Cond.privateMethod_at (mvP hZ wo195 (args := #[]))) (mvT hZ wo194) (mvT hZ wo122 (args := #[])) (by decide)) (Cond.privateMethod_at (mvP hZ wo195 (args := #[]))) (mvT hZ wo196) (by decide) (backOf (W := 0) (pk_ l Z a0 hw [] ob h56 n0 f62 f60) hZ wo196 wo123 (by decide) (by decide)) (g := (mkF m 137 #[rv ob, rv st_, .val .null, .val .null, rv od, iv (own_hash sd (2 : Int32) (c0 ||| (c1 <<< ((16 : Int32) &&& 31)))), iv (own_sl2 (own_hash sd (2 : Int32) (c0 ||| (c1 <<< ((16 : Int32) &&& 31)))) (ha_ &&& 7))] [(.ref ob)])) rfl (by rw [hml]; rfl) (Steps.refl _) (a := ob) (by rw [e56]; exact q61) q61' (argsL := []) (rest := []) (lenOf pd_3 rfl) rfl (by show 2 * 0 + _ ≤ _; exact Nat.le_of_eq rfl) (hb hby d30_137) (fun _ _ => ⟨rfl, e56, (by decide : 0 + 0 ≤ _), (by decide : 0 + 0 ≤ _)⟩)
  dsimp only [Pt.U, Pt.locs, Pt.cells, Pt.slots] at X61 l61 y61 z61 st61 hQ61
  rw [l61, y61, z61] at X61
  obtain ⟨rfl, N61q, K61q⟩ := hQ61
  have N64 := Fr.app N59 N61q
  have f65 := ((hq40_1.other W47 (Or.inl pf_NE_ob_sl)).other W56 (Or.inl pf_NE_ob_va))
  have f66 := (f51.other W56 (Or.inl pf_NE_ob_va))
  have f67 := ((hq40_0.other W47 (Or.inl pf_NE_ob_sl)).other W56 (Or.inl pf_NE_ob_va))
  have f68 := (f49.other W56 pf_NE_sl_va)
  have f69 := ((hq40_7.other W47 (Ne.symm pf_NE_sl_re)).other W56 (Ne.symm pf_NE_va_re))
  have f70 := ((hq40_3.other W47 (Or.inl pf_NE_ob_sl)).other W56 (Or.inl pf_NE_ob_va))
  have f71 := ((hq40_6.other W47 (Or.inl pf_NE_ob_sl)).other W56 (Or.inl pf_NE_ob_va))
  have f72 := ((hq40_5.other W47 (Or.inl pf_NE_ob_sl)).other W56 (Or.inl pf_NE_ob_va))
  obtain ⟨fs, hr, hrun, hended, hW, hsame⟩ := X61.leave (v := none) (fun _ => rfl)
  refine ⟨_, _, pre0 _ ?_, hrun, hended, _, _, rfl, ?_, ⟨_, rfl⟩, hW, hsame.mono (by decide) (by decide)⟩
  · show Steps _ _ _ (State.setTop _ (mkF m 0 #[rv ob, rv st_, .val .null, .val .null, rv od, .unset, .unset] [])) _
    refine XS.aloadN X0.here hx rfl (hb hby d30_0) rfl rfl ?_
    show Steps _ _ _ (State.setTop _ (mkF m 1 #[rv ob, rv st_, .val .null, .val .null, rv od, .unset, .unset] [(.ref ob)])) _
    refine XS.aloadN X0.here hx rfl (hb hby d30_1) rfl rfl ?_
    refine XS.aloadN X0.here hx rfl (hb hby d30_2) rfl rfl ?_
    refine st1.trans ?_
    refine XS.istore X1.here hx rfl (hb hby d30_6) rfl (l' := #[rv ob, rv st_, .val .null, .val .null, rv od, iv (own_hash sd (2 : Int32) (c0 ||| (c1 <<< ((16 : Int32) &&& 31)))), .unset]) rfl ?_
    refine XS.aloadN X1.here hx rfl (hb hby d30_8) rfl rfl ?_
    refine XS.iload X1.here hx rfl (hb hby d30_9) rfl ?_
    refine XS.aloadN X1.here hx rfl (hb hby d30_11) rfl rfl ?_
    refine XS.aloadN X1.here hx rfl (hb hby d30_12) rfl rfl ?_
    refine st3.trans ?_
    show Steps _ _ _ (State.setTop _ (mkF m 16 #[rv ob, rv st_, .val .null, .val .null, rv od, iv (own_hash sd (2 : Int32) (c0 ||| (c1 <<< ((16 : Int32) &&& 31)))), .unset] [(.int (-1 : Int32))])) _
    refine XS.istore X3.here hx rfl (hb hby d30_16) rfl (l' := #[rv ob, rv st_, .val .null, .val .null, rv od, iv (own_hash sd (2 : Int32) (c0 ||| (c1 <<< ((16 : Int32) &&& 31)))), iv (-1 : Int32)]) rfl ?_
    refine XS.iload X3.here hx rfl (hb hby d30_18) rfl ?_
    refine XS.iconst X3.here hx rfl (hb hby d30_20) ?_
    refine XS.icmpNo X3.here hx rfl (hb hby d30_21) rfl (teq (by decide : (-1 : Int32) = (-1 : Int32))).2 ?_
    refine XS.iconst X3.here hx rfl (hb hby d30_24) ?_
    refine XS.aloadN X3.here hx rfl (hb hby d30_25) rfl rfl ?_
    refine st5 _ ?_
    refine XS.iconst X5.here hx rfl (hb hby d30_29) ?_
    refine XS.iadd X5.here hx rfl (hb hby d30_30) rfl ?_
    show Steps _ _ _ (State.setTop _ (mkF m 31 #[rv ob, rv st_, .val .null, .val .null, rv od, iv (own_hash sd (2 : Int32) (c0 ||| (c1 <<< ((16 : Int32) &&& 31)))), iv (-1 : Int32)] [(.int 2), (.int 4)])) _
    refine XS.imul X5.here hx rfl (hb hby d30_31) rfl ?_
    refine XS.iconst X5.here hx rfl (hb hby d30_32) ?_
    refine XS.aloadN X5.here hx rfl (hb hby d30_33) rfl rfl ?_
    refine st6 _ ?_
    refine X6.arraylength hx (by rw [e6]; exact Ar7.1) (State.isArrayOf_alike hZ.alike Ar7.2.1) (g := (mkF m 37 #[rv ob, rv st_, .val .null, .val .null, rv od, iv (own_hash sd (2 : Int32) (c0 ||| (c1 <<< ((16 : Int32) &&& 31)))), iv (-1 : Int32)] [(.ref va), (.int 3), (.int 8)])) rfl rfl (hb hby d30_37) _ ?_
    rw [len_of Sz7 Nn7]
    show Steps _ _ _ (State.setTop _ (mkF m 38 #[rv ob, rv st_, .val .null, .val .null, rv od, iv (own_hash sd (2 : Int32) (c0 ||| (c1 <<< ((16 : Int32) &&& 31)))), iv (-1 : Int32)] [(.int 8), (.int 3), (.int 8)])) _
    refine XS.imul X6.here hx rfl (hb hby d30_38) rfl ?_
    refine XS.icmpYes X6.here hx rfl (pc0 := 39) (pc' := 53) rfl (hb hby d30_39) rfl (flt (by decide : ¬ ((24 : Int32) < 8))).2.2.2 (by decide) (by decide) ?_
    refine XS.aloadN X6.here hx rfl (hb hby d30_53) rfl rfl ?_
    refine XS.iload X6.here hx rfl (hb hby d30_54) rfl ?_
    show Steps _ _ _ (State.setTop _ (mkF m 56 #[rv ob, rv st_, .val .null, .val .null, rv od, iv (own_hash sd (2 : Int32) (c0 ||| (c1 <<< ((16 : Int32) &&& 31)))), iv (-1 : Int32)] [(.int (own_hash sd (2 : Int32) (c0 ||| (c1 <<< ((16 : Int32) &&& 31))))), (.ref ob)])) _
    refine st8.trans ?_
    refine XS.istore X8.here hx rfl (hb hby d30_59) rfl (l' := #[rv ob, rv st_, .val .null, .val .null, rv od, iv (own_hash sd (2 : Int32) (c0 ||| (c1 <<< ((16 : Int32) &&& 31)))), iv (own_sl2 (own_hash sd (2 : Int32) (c0 ||| (c1 <<< ((16 : Int32) &&& 31)))) (ha_ &&& 7))]) rfl ?_
    refine XS.aloadN X8.here hx rfl (hb hby d30_61) rfl rfl ?_
    refine XS.dup X8.here hx rfl (hb hby d30_62) rfl rfl ?_
    refine st10 _ ?_
    refine XS.iconst X10.here hx rfl (hb hby d30_66) ?_
    refine XS.iadd X10.here hx rfl (hb hby d30_67) rfl ?_
    refine st11 _ ?_
    refine XS.goto X11.here hx rfl (pc0 := 71) (pc' := 98) rfl (hb hby d30_71) (by decide) (by decide) ?_
    show Steps _ _ _ (State.setTop _ (mkF m 98 #[rv ob, rv st_, .val .null, .val .null, rv od, iv (own_hash sd (2 : Int32) (c0 ||| (c1 <<< ((16 : Int32) &&& 31)))), iv (own_sl2 (own_hash sd (2 : Int32) (c0 ||| (c1 <<< ((16 : Int32) &&& 31)))) (ha_ &&& 7))] [])) _
    refine XS.aloadN X11.here hx rfl (hb hby d30_98) rfl rfl ?_
    refine st16 _ ?_
    refine XS.iconst X16.here hx rfl (hb hby d30_102) ?_
    refine XS.iload X16.here hx rfl (hb hby d30_103) rfl ?_
    refine XS.imul X16.here hx rfl (hb hby d30_105) rfl ?_
    refine XS.iload X16.here hx rfl (hb hby d30_106) rfl ?_
    refine st20 _ ?_
    refine XS.aloadN X20.here hx rfl (hb hby d30_109) rfl rfl ?_
    refine st25 _ ?_
    show Steps _ _ _ (State.setTop _ (mkF m 113 #[rv ob, rv st_, .val .null, .val .null, rv od, iv (own_hash sd (2 : Int32) (c0 ||| (c1 <<< ((16 : Int32) &&& 31)))), iv (own_sl2 (own_hash sd (2 : Int32) (c0 ||| (c1 <<< ((16 : Int32) &&& 31)))) (ha_ &&& 7))] [(.ref sl)])) _
    refine XS.iconst X25.here hx rfl (hb hby d30_113) ?_
    refine XS.iload X25.here hx rfl (hb hby d30_114) rfl ?_
    refine XS.imul X25.here hx rfl (hb hby d30_116) rfl ?_
    refine XS.iconst X25.here hx rfl (hb hby d30_117) ?_
    refine XS.iadd X25.here hx rfl (hb hby d30_118) rfl ?_
    refine XS.aloadN X25.here hx rfl (hb hby d30_119) rfl rfl ?_
    refine XS.aloadN X25.here hx rfl (hb hby d30_120) rfl rfl ?_
    refine XS.aloadN X25.here hx rfl (hb hby d30_121) rfl rfl ?_
    refine XS.aload X25.here hx rfl (hb hby d30_122) rfl rfl ?_
    show Steps _ _ _ (State.setTop _ (mkF m 124 #[rv ob, rv st_, .val .null, .val .null, rv od, iv (own_hash sd (2 : Int32) (c0 ||| (c1 <<< ((16 : Int32) &&& 31)))), iv (own_sl2 (own_hash sd (2 : Int32) (c0 ||| (c1 <<< ((16 : Int32) &&& 31)))) (ha_ &&& 7))] [(.ref od), .null, (.ref st_), (.ref ob), (.int (((2 : Int32) * (own_sl2 (own_hash sd (2 : Int32) (c0 ||| (c1 <<< ((16 : Int32) &&& 31)))) (ha_ &&& 7))) + 1)), (.ref sl)])) _
    refine st40.trans ?_
    refine st47 _ ?_
    refine XS.aloadN X47.here hx rfl (hb hby d30_128) rfl rfl ?_
    refine st52 _ ?_
    refine XS.iload X52.here hx rfl (hb hby d30_132) rfl ?_
    refine XS.aloadN X52.here hx rfl (hb hby d30_134) rfl rfl ?_
    refine st56 _ ?_
    refine XS.aloadN X56.here hx rfl (hb hby d30_136) rfl rfl ?_
    refine st61.trans ?_
    show Steps _ _ _ (State.setTop _ (mkF m 140 #[rv ob, rv st_, .val .null, .val .null, rv od, iv (own_hash sd (2 : Int32) (c0 ||| (c1 <<< ((16 : Int32) &&& 31)))), iv (own_sl2 (own_hash sd (2 : Int32) (c0 ||| (c1 <<< ((16 : Int32) &&& 31)))) (ha_ &&& 7))] [])) _
    exact X61.returnOut hx Bd.returns (hb hby d30_140) hr
  · show Q_pu_2 Z _ _ _ _ _ _ _ _ _ _ _ _ _ _ _ _ _ _ _ _ _ _ h0 n0 _ T61.heap _
    rw [K61q]
    exact ⟨(own_w2 SL (own_sl2 (own_hash sd (2 : Int32) (c0 ||| (c1 <<< ((16 : Int32) &&& 31)))) (ha_ &&& 7)) (own_hash sd (2 : Int32) (c0 ||| (c1 <<< ((16 : Int32) &&& 31)))) u_), (own_wr RL u_ n_ OL (2 : Int32) (c0 ||| (c1 <<< ((16 : Int32) &&& 31)))), rfl, N64, (K57), f65, f66, f67, f68, f58, f69, f70, f71, f60, f72, own_T12 hT hu1 hn1 hu hu2 hn hOL⟩
theorem d28_0 : decode prog_25_method_13_code 0 = .ok (.aload_n 0, 1) := by decide +kernel
theorem d28_1 : decode prog_25_method_13_code 1 = .ok (.aload_n 1, 1) := by decide +kernel
theorem pd_2 : parseMethodDescriptor "()Ljava/lang/String;" = some ⟨[], some (.object "java/lang/String")⟩ := by decide +kernel
theorem d28_2 : decode prog_25_method_13_code 2 = .ok (.invokevirtual 52, 3) := by decide +kernel
theorem d28_5 : decode prog_25_method_13_code 5 = .ok (.aconst_null, 1) := by decide +kernel
theorem d28_6 : decode prog_25_method_13_code 6 = .ok (.aload_n 2, 1) := by decide +kernel
theorem d28_7 : decode prog_25_method_13_code 7 = .ok (.aload_n 3, 1) := by decide +kernel
theorem pd_30 : parseMethodDescriptor "(Ljava/lang/String;Ljava/lang/String;Ljava/lang/Object;[I)V" = some ⟨[(.object "java/lang/String"), (.object "java/lang/String"), (.object "java/lang/Object"), (.array .int)], none⟩ := by decide +kernel
theorem d28_8 : decode prog_25_method_13_code 8 = .ok (.invokevirtual 85, 3) := by decide +kernel
theorem d28_11 : decode prog_25_method_13_code 11 = .ok (.return_, 1) := by decide +kernel
theorem ef_pn_1 (m : MethodId) (x0 x1 x3 : Addr) : entryFrame m #[(.ref x0), (.ref x1), .null, (.ref x3)] 4 = mkF m 0 #[rv x0, rv x1, .val .null, rv x3] [] := by first | (simp [entryFrame, mkF, argsToLocals, Value.category]; done) | rfl
def Q_pn_1 (Z : State) (ob sl va re : Addr) (SL RL : List Int32) (sd u_ : Int32) (od : Addr) (OL : List Int32) (n_ : Int32) (nm st_ sv_ : Addr) (c0 cs : Int32) (fm : Value) (h0 : Heap) (n0 : Nat) (v : Option Value) (h : Heap) (L : List Loc) : Prop := ∃ (SL2 : List Int32) (RL2 : List Int32), v = none ∧ Fr n0 L ∧ Keep h0 h [ob, sl, va, re] ∧ (Fld Z h ob "com/example/arbiter/arbiter/OrdinalTable" "slots" "[I" (.ref sl)) ∧ (Fld Z h ob "com/example/arbiter/arbiter/OrdinalTable" "values" "[Ljava/lang/Object;" (.ref va)) ∧ (Fld Z h ob "com/example/arbiter/arbiter/OrdinalTable" "records" "[I" (.ref re)) ∧ (Av Z h sl .int 16 (own_cv SL2) (.int 0)) ∧ (Al Z h va (.object "java/lang/Object") (8 : Int32)) ∧ (Av Z h re .int 64 (own_cv RL2) (.int 0)) ∧ (Fld Z h ob "com/example/arbiter/arbiter/OrdinalTable" "seed" "I" (.int sd)) ∧ (Fld Z h ob "com/example/arbiter/arbiter/OrdinalTable" "used" "I" (.int (((((u_ + 1) + n_) + 1) + 1) + 1))) ∧ (Fld Z h ob "com/example/arbiter/arbiter/OrdinalTable" "unused" "I" (.int 0)) ∧ (Fld Z h ob "com/example/arbiter/arbiter/OrdinalTable" "size" "I" (.int 1)) ∧ (own_T1 SL2 RL2 (own_hash sd (1 : Int32) c0) u_ n_ OL c0)
set_option maxRecDepth 65536 in
set_option maxHeartbeats 40000000 in
theorem pn_1 (l : Launch) (Z : State) (a0 : Array Value) (hw : ∀ d ∈ tables_1, d.before a0 Z = true) (ws : List Jvm.Cond) (ob sl va re : Addr) (SL RL : List Int32) (sd u_ : Int32) (od : Addr) (OL : List Int32) (n_ : Int32) (nm st_ sv_ : Addr) (c0 cs : Int32) (fm : Value) (h0 : Heap) (n0 : Nat) (Z0 : n0 ≤ h0.size) (pf_O : Old Z n0 h0) (pS_COMPAC : Sta Z Z.heap "java/lang/String" "COMPACT_STRINGS" "Z" (.int cs)) (hcs : ¬ (cs = 0)) (pS_SIOOBE : Sta Z Z.heap "jdk/internal/util/Preconditions" "SIOOBE_FORMATTER" "Ljava/util/function/BiFunction;" fm) (rfm : fm.isRef = true) (pf_E_st_ : Exa Z h0 st_ "java/lang/String") (pf_F_st__value : Fld Z h0 st_ "java/lang/String" "value" "[B" (.ref sv_)) (pf_F_st__coder : Fld Z h0 st_ "java/lang/String" "coder" "B" (.int 0)) (pf_A_sv_ : Av Z h0 sv_ .byte (1 : Int32) (own_vs [c0]) (.int 0)) (hrA : ∀ c ∈ ([c0] : List Int32), ¬ c < 0 ∧ ¬ (255 : Int32) < c) (pf_E_ob : Exa Z h0 ob "com/example/arbiter/arbiter/OrdinalTable") (pf_F_ob_slots : Fld Z h0 ob "com/example/arbiter/arbiter/OrdinalTable" "slots" "[I" (.ref sl)) (pf_F_ob_values : Fld Z h0 ob "com/example/arbiter/arbiter/OrdinalTable" "values" "[Ljava/lang/Object;" (.ref va)) (pf_F_ob_records : Fld Z h0 ob "com/example/arbiter/arbiter/OrdinalTable" "records" "[I" (.ref re)) (pf_A_sl : Av Z h0 sl .int 16 (own_cv SL) (.int 0)) (pf_L_va : Al Z h0 va (.object "java/lang/Object") (8 : Int32)) (pf_A_re : Av Z h0 re .int 64 (own_cv RL) (.int 0)) (pf_F_ob_seed : Fld Z h0 ob "com/example/arbiter/arbiter/OrdinalTable" "seed" "I" (.int sd)) (pf_F_ob_used : Fld Z h0 ob "com/example/arbiter/arbiter/OrdinalTable" "used" "I" (.int u_)) (pf_F_ob_unused : Fld Z h0 ob "com/example/arbiter/arbiter/OrdinalTable" "unused" "I" (.int 0)) (pf_F_ob_size : Fld Z h0 ob "com/example/arbiter/arbiter/OrdinalTable" "size" "I" (.int 0)) (pf_A_od : Av Z h0 od .int n_ (own_cv OL) (.int 0)) (hu : 0 < u_.toInt ∧ u_.toInt < 20) (hn : 0 < n_.toInt ∧ n_.toInt < 5) (hOL : OL.length = n_.toNatClampNeg) (hT : own_T0 SL RL) (pf_G_ob : n0 ≤ ob) (pf_G_sl : n0 ≤ sl) (pf_G_va : n0 ≤ va) (pf_G_re : n0 ≤ re) (pf_NE_ob_sl : ob ≠ sl) (pf_NE_ob_va : ob ≠ va) (pf_NE_ob_re : ob ≠ re) (pf_NE_sl_va : sl ≠ va) (pf_NE_sl_re : sl ≠ re) (pf_NE_va_re : va ≠ re) (pf_NE_st__ob : st_ ≠ ob) (pf_NE_st__sl : st_ ≠ sl) (pf_NE_st__va : st_ ≠ va) (pf_NE_st__re : st_ ≠ re) (pf_NE_sv__ob : sv_ ≠ ob) (pf_NE_sv__sl : sv_ ≠ sl) (pf_NE_sv__va : sv_ ≠ va) (pf_NE_sv__re : sv_ ≠ re) (pf_NE_od_ob : od ≠ ob) (pf_NE_od_sl : od ≠ sl) (pf_NE_od_va : od ≠ va) (pf_NE_od_re : od ≠ re) (pf_E_nm : Exa Z h0 nm "com/example/arbiter/arbiter/Name") (pf_F_nm_text : Fld Z h0 nm "com/example/arbiter/arbiter/Name" "text" "Ljava/lang/String;" (.ref st_)) :
    MetFree l MN28 (head1 (Jvm.Cond.code MN28 prog_25_method_13_code 4 none :: ws) (Room.mk 8 0 0 123)) (fun a U => a = #[(.ref ob), (.ref nm), .null, (.ref od)] ∧ Z.Warmed39 U.vm ∧ U.heap = h0) (fun _ _ _ _ _ => True) (fun _ U o U' => ∃ v L, o = .returned v ∧ Q_pn_1 Z ob sl va re SL RL sd u_ od OL n_ nm st_ sv_ c0 cs fm h0 n0 v U'.heap L ∧ FrameEnd U o U' L (Room.mk 8 0 0 123).cells (Room.mk 8 0 0 123).slots) := by
  refine MetFree.of_bodySF (plainFor_of_name pn_com_example_arbiter_arbiter_OrdinalTable) hisR ?_
  intro p e s m args below meth c s₁ Bd hml0 hP hK
  obtain ⟨rfl, hZ, hh⟩ := hP
  have hx := Bd.exec
  have hby := Bd.bytes
  have hml : c.maxLocals = 4 := hml0
  have hown : s.vm.findClass "com/example/arbiter/arbiter/OrdinalTable" = some m.cls := findClass_of_methodNamed Bd.named
  have hnm := (name_of_methodNamed Bd.named Bd.method).1
  have X0 : Stand p l e (Room.mk 8 0 0 123) s m #[(.ref ob), (.ref nm), .null, (.ref od)] below meth c s₁ [] 0 0 := Stand.of_body Bd
  have e0 : s₁.heap = h0 := by rw [← hh, Bd.state]; rfl
  have N0 := Fr.nil n0
  have pre0 : ∀ t, Steps p.tables e below (s₁.setTop (mkF m 0 #[rv ob, rv nm, .val .null, rv od] [])) t → Steps p.tables e below (s₁.setTop (entryFrame m #[(.ref ob), (.ref nm), .null, (.ref od)] 4)) t := fun t k => castTop (ef_pn_1 m ob nm od) k
  have wo35 := hw _ (own_m 35 rfl)
  have wo122 := hw _ (own_m 122 rfl)
  have wo123 := hw _ (own_m 123 rfl)
  have wo145 := hw _ (own_m 145 rfl)
  have wo146 := hw _ (own_m 146 rfl)
  have wo147 := hw _ (own_m 147 rfl)
  have wo148 := hw _ (own_m 148 rfl)
  have wo149 := hw _ (own_m 149 rfl)
  have wo150 := hw _ (own_m 150 rfl)
  have wo151 := hw _ (own_m 151 rfl)
  have wo152 := hw _ (own_m 152 rfl)
  have wo153 := hw _ (own_m 153 rfl)
  obtain ⟨cq1, kq1, q1a, q1b, q1c⟩ := isOf hZ e0 pf_E_nm
  obtain ⟨_, _, ⟨T1, L1, k1, n1⟩, -, X1, ⟨Lc1, hQ1, l1, y1, z1⟩, st1⟩ := X0.virtualBack hx (y := MN29) (z := MN29) hown (mvT hZ wo145) (mvT hZ wo146) (notFace_of_selects (args := #[]) (mvT hZ wo148)) (mvT hZ wo148) (mvT hZ wo147) (by decide) (backOf (W := 1) (ts l Z a0 hw [] nm st_ h0 n0 Z0 pf_F_nm_text) hZ wo149 wo35 (by decide) (by decide)) q1a q1c (g := (mkF m 2 #[rv ob, rv nm, .val .null, rv od] [(.ref nm), (.ref ob)])) rfl (by rw [hml]; rfl) (Steps.refl _) (argsL := []) (rest := [(.ref ob)]) (lenOf pd_2 rfl) rfl (by show 2 * 0 + _ ≤ _; exact Nat.le_of_eq rfl) (hb hby d28_2) (fun _ _ => ⟨rfl, e0, (by decide : 0 + 0 ≤ _), (by decide : 0 + 0 ≤ _)⟩)
  dsimp only [Pt.U, Pt.locs, Pt.cells, Pt.slots] at X1 l1 y1 z1 st1 hQ1
  rw [l1, y1, z1] at X1
  obtain ⟨rfl, N1q, K1q⟩ := hQ1
  have N2 := Fr.app N0 N1q
  obtain ⟨cq3, q3, q3'⟩ := pf_E_ob.cell
  obtain ⟨_, _, ⟨T3, L3, k3, n3⟩, -, X3, ⟨Lc3, hQ3, l3, y3, z3⟩, st3⟩ := X1.privateBack hx (y := MN30) hown (mvT hZ wo150) (mvT hZ wo151) (own_sel (Cond.privateMethod_at (mvP hZ wo152 (args := #[]))) (mvT hZ wo151) (mvT hZ wo122 (args := #[])) (by decide)) (Cond.privateMethod_at (mvP hZ wo152 (args := #[]))) (mvT hZ wo153) (by decide) (backOf (W := 0) (pu_1 l Z a0 hw [] ob sl va re SL RL sd u_ od OL n_ st_ sv_ c0 cs fm h0 n0 Z0 pf_O pS_COMPAC hcs pS_SIOOBE rfm pf_E_st_ pf_F_st__value pf_F_st__coder pf_A_sv_ hrA pf_E_ob pf_F_ob_slots pf_F_ob_values pf_F_ob_records pf_A_sl pf_L_va pf_A_re pf_F_ob_seed pf_F_ob_used pf_F_ob_unused pf_F_ob_size pf_A_od hu hn hOL hT pf_G_ob pf_G_sl pf_G_va pf_G_re pf_NE_ob_sl pf_NE_ob_va pf_NE_ob_re pf_NE_sl_va pf_NE_sl_re pf_NE_va_re pf_NE_st__ob pf_NE_st__sl pf_NE_st__va pf_NE_st__re pf_NE_sv__ob pf_NE_sv__sl pf_NE_sv__va pf_NE_sv__re pf_NE_od_ob pf_NE_od_sl pf_NE_od_va pf_NE_od_re) hZ wo153 wo123 (by decide) (by decide)) (g := (mkF m 8 #[rv ob, rv nm, .val .null, rv od] [(.ref od), .null, .null, (.ref st_), (.ref ob)])) rfl (by rw [hml]; rfl) (Steps.refl _) (a := ob) (by rw [K1q]; exact q3) q3' (argsL := [(.ref st_), .null, .null, (.ref od)]) (rest := []) (lenOf pd_30 rfl) rfl (by show 2 * 0 + _ ≤ _; exact Nat.le_of_eq rfl) (hb hby d28_8) (fun _ _ => ⟨rfl, K1q, (by decide : 0 + 0 ≤ _), (by decide : 0 + 0 ≤ _)⟩)
  dsimp only [Pt.U, Pt.locs, Pt.cells, Pt.slots] at X3 l3 y3 z3 st3 hQ3
  rw [l3, y3, z3] at X3
  obtain ⟨SL2_3, RL2_3, rfl, N3q, K3q, hq3_0, hq3_1, hq3_2, hq3_3, hq3_4, hq3_5, hq3_6, hq3_7, hq3_8, hq3_9, hq3_10⟩ := hQ3
  have N4 := Fr.app N2 N3q
  have K5 : Keep h0 T3.heap [ob, sl, va, re] := (Keep.refl h0 [ob, sl, va, re]).trans K3q (allS (P := fun x => x ∈ [ob, sl, va, re] ∨ h0.size ≤ x) (Or.inl (own_m 0 rfl)) (allS (P := fun x => x ∈ [ob, sl, va, re] ∨ h0.size ≤ x) (Or.inl (own_m 1 rfl)) (allS (P := fun x => x ∈ [ob, sl, va, re] ∨ h0.size ≤ x) (Or.inl (own_m 2 rfl)) (allS (P := fun x => x ∈ [ob, sl, va, re] ∨ h0.size ≤ x) (Or.inl (own_m 3 rfl)) all0))))
  obtain ⟨fs, hr, hrun, hended, hW, hsame⟩ := X3.leave (v := none) (fun _ => rfl)
  refine ⟨_, _, pre0 _ ?_, hrun, hended, _, _, rfl, ?_, ⟨_, rfl⟩, hW, hsame.mono (by decide) (by decide)⟩
  · show Steps _ _ _ (State.setTop _ (mkF m 0 #[rv ob, rv nm, .val .null, rv od] [])) _
    refine XS.aloadN X0.here hx rfl (hb hby d28_0) rfl rfl ?_
    show Steps _ _ _ (State.setTop _ (mkF m 1 #[rv ob, rv nm, .val .null, rv od] [(.ref ob)])) _
    refine XS.aloadN X0.here hx rfl (hb hby d28_1) rfl rfl ?_
    refine st1.trans ?_
    refine XS.aconstNull X1.here hx rfl (hb hby d28_5) ?_
    refine XS.aloadN X1.here hx rfl (hb hby d28_6) rfl rfl ?_
    refine XS.aloadN X1.here hx rfl (hb hby d28_7) rfl rfl ?_
    refine st3.trans ?_
    show Steps _ _ _ (State.setTop _ (mkF m 11 #[rv ob, rv nm, .val .null, rv od] [])) _
    exact X3.returnOut hx Bd.returns (hb hby d28_11) hr
  · show Q_pn_1 Z _ _ _ _ _ _ _ _ _ _ _ _ _ _ _ _ _ h0 n0 _ T3.heap _
    exact ⟨SL2_3, RL2_3, rfl, N4, (K5), hq3_0, hq3_1, hq3_2, hq3_3, hq3_4, hq3_5, hq3_6, hq3_7, hq3_8, hq3_9, hq3_10⟩
theorem ef_pn_2 (m : MethodId) (x0 x1 x3 : Addr) : entryFrame m #[(.ref x0), (.ref x1), .null, (.ref x3)] 4 = mkF m 0 #[rv x0, rv x1, .val .null, rv x3] [] := by first | (simp [entryFrame, mkF, argsToLocals, Value.category]; done) | rfl
def Q_pn_2 (Z : State) (ob sl va re : Addr) (SL RL : List Int32) (sd u_ : Int32) (od : Addr) (OL : List Int32) (n_ ha_ ua_ na_ : Int32) (Oa_ : List Int32) (wa_ : Int32) (nm st_ sv_ : Addr) (c0 c1 cs : Int32) (fm : Value) (h0 : Heap) (n0 : Nat) (v : Option Value) (h : Heap) (L : List Loc) : Prop := ∃ (SL2 : List Int32) (RL2 : List Int32), v = none ∧ Fr n0 L ∧ Keep h0 h [ob, sl, va, re] ∧ (Fld Z h ob "com/example/arbiter/arbiter/OrdinalTable" "slots" "[I" (.ref sl)) ∧ (Fld Z h ob "com/example/arbiter/arbiter/OrdinalTable" "values" "[Ljava/lang/Object;" (.ref va)) ∧ (Fld Z h ob "com/example/arbiter/arbiter/OrdinalTable" "records" "[I" (.ref re)) ∧ (Av Z h sl .int 16 (own_cv SL2) (.int 0)) ∧ (Al Z h va (.object "java/lang/Object") (8 : Int32)) ∧ (Av Z h re .int 64 (own_cv RL2) (.int 0)) ∧ (Fld Z h ob "com/example/arbiter/arbiter/OrdinalTable" "seed" "I" (.int sd)) ∧ (Fld Z h ob "com/example/arbiter/arbiter/OrdinalTable" "used" "I" (.int (((((u_ + 1) + n_) + 1) + 1) + 1))) ∧ (Fld Z h ob "com/example/arbiter/arbiter/OrdinalTable" "unused" "I" (.int 0)) ∧ (Fld Z h ob "com/example/arbiter/arbiter/OrdinalTable" "size" "I" (.int 2)) ∧ (own_T2 SL2 RL2 ha_ ua_ na_ Oa_ wa_ (own_hash sd (2 : Int32) (c0 ||| (c1 <<< ((16 : Int32) &&& 31)))) u_ n_ OL (c0 ||| (c1 <<< ((16 : Int32) &&& 31))))
set_option maxRecDepth 65536 in
set_option maxHeartbeats 40000000 in
theorem pn_2 (l : Launch) (Z : State) (a0 : Array Value) (hw : ∀ d ∈ tables_1, d.before a0 Z = true) (ws : List Jvm.Cond) (ob sl va re : Addr) (SL RL : List Int32) (sd u_ : Int32) (od : Addr) (OL : List Int32) (n_ ha_ ua_ na_ : Int32) (Oa_ : List Int32) (wa_ : Int32) (nm st_ sv_ : Addr) (c0 c1 cs : Int32) (fm : Value) (h0 : Heap) (n0 : Nat) (Z0 : n0 ≤ h0.size) (pf_O : Old Z n0 h0) (pS_COMPAC : Sta Z Z.heap "java/lang/String" "COMPACT_STRINGS" "Z" (.int cs)) (hcs : ¬ (cs = 0)) (pS_SIOOBE : Sta Z Z.heap "jdk/internal/util/Preconditions" "SIOOBE_FORMATTER" "Ljava/util/function/BiFunction;" fm) (rfm : fm.isRef = true) (pf_E_st_ : Exa Z h0 st_ "java/lang/String") (pf_F_st__value : Fld Z h0 st_ "java/lang/String" "value" "[B" (.ref sv_)) (pf_F_st__coder : Fld Z h0 st_ "java/lang/String" "coder" "B" (.int 0)) (pf_A_sv_ : Av Z h0 sv_ .byte (2 : Int32) (own_vs [c0, c1]) (.int 0)) (hrA : ∀ c ∈ ([c0, c1] : List Int32), ¬ c < 0 ∧ ¬ (255 : Int32) < c) (pf_E_ob : Exa Z h0 ob "com/example/arbiter/arbiter/OrdinalTable") (pf_F_ob_slots : Fld Z h0 ob "com/example/arbiter/arbiter/OrdinalTable" "slots" "[I" (.ref sl)) (pf_F_ob_values : Fld Z h0 ob "com/example/arbiter/arbiter/OrdinalTable" "values" "[Ljava/lang/Object;" (.ref va)) (pf_F_ob_records : Fld Z h0 ob "com/example/arbiter/arbiter/OrdinalTable" "records" "[I" (.ref re)) (pf_A_sl : Av Z h0 sl .int 16 (own_cv SL) (.int 0)) (pf_L_va : Al Z h0 va (.object "java/lang/Object") (8 : Int32)) (pf_A_re : Av Z h0 re .int 64 (own_cv RL) (.int 0)) (pf_F_ob_seed : Fld Z h0 ob "com/example/arbiter/arbiter/OrdinalTable" "seed" "I" (.int sd)) (pf_F_ob_used : Fld Z h0 ob "com/example/arbiter/arbiter/OrdinalTable" "used" "I" (.int u_)) (pf_F_ob_unused : Fld Z h0 ob "com/example/arbiter/arbiter/OrdinalTable" "unused" "I" (.int 0)) (pf_F_ob_size : Fld Z h0 ob "com/example/arbiter/arbiter/OrdinalTable" "size" "I" (.int 1)) (pf_A_od : Av Z h0 od .int n_ (own_cv OL) (.int 0)) (hu : 0 < u_.toInt ∧ u_.toInt < 20) (hn : 0 < n_.toInt ∧ n_.toInt < 5) (hOL : OL.length = n_.toNatClampNeg) (hT : own_T1 SL RL ha_ ua_ na_ Oa_ wa_) (hu1 : 0 < ua_.toInt ∧ ua_.toInt < 20) (hn1 : 0 < na_.toInt ∧ na_.toInt < 5) (hu2 : u_.toInt = ua_.toInt + 4 + na_.toInt) (pf_G_ob : n0 ≤ ob) (pf_G_sl : n0 ≤ sl) (pf_G_va : n0 ≤ va) (pf_G_re : n0 ≤ re) (pf_NE_ob_sl : ob ≠ sl) (pf_NE_ob_va : ob ≠ va) (pf_NE_ob_re : ob ≠ re) (pf_NE_sl_va : sl ≠ va) (pf_NE_sl_re : sl ≠ re) (pf_NE_va_re : va ≠ re) (pf_NE_st__ob : st_ ≠ ob) (pf_NE_st__sl : st_ ≠ sl) (pf_NE_st__va : st_ ≠ va) (pf_NE_st__re : st_ ≠ re) (pf_NE_sv__ob : sv_ ≠ ob) (pf_NE_sv__sl : sv_ ≠ sl) (pf_NE_sv__va : sv_ ≠ va) (pf_NE_sv__re : sv_ ≠ re) (pf_NE_od_ob : od ≠ ob) (pf_NE_od_sl : od ≠ sl) (pf_NE_od_va : od ≠ va) (pf_NE_od_re : od ≠ re) (pf_E_nm : Exa Z h0 nm "com/example/arbiter/arbiter/Name") (pf_F_nm_text : Fld Z h0 nm "com/example/arbiter/arbiter/Name" "text" "Ljava/lang/String;" (.ref st_)) :
    MetFree l MN28 (head1 (Jvm.Cond.code MN28 prog_25_method_13_code 4 none :: ws) (Room.mk 8 0 0 124)) (fun a U => a = #[(.ref ob), (.ref nm), .null, (.ref od)] ∧ Z.Warmed39 U.vm ∧ U.heap = h0) (fun _ _ _ _ _ => True) (fun _ U o U' => ∃ v L, o = .returned v ∧ Q_pn_2 Z ob sl va re SL RL sd u_ od OL n_ ha_ ua_ na_ Oa_ wa_ nm st_ sv_ c0 c1 cs fm h0 n0 v U'.heap L ∧ FrameEnd U o U' L (Room.mk 8 0 0 124).cells (Room.mk 8 0 0 124).slots) := by
  refine MetFree.of_bodySF (plainFor_of_name pn_com_example_arbiter_arbiter_OrdinalTable) hisR ?_
  intro p e s m args below meth c s₁ Bd hml0 hP hK
  obtain ⟨rfl, hZ, hh⟩ := hP
  have hx := Bd.exec
  have hby := Bd.bytes
  have hml : c.maxLocals = 4 := hml0
  have hown : s.vm.findClass "com/example/arbiter/arbiter/OrdinalTable" = some m.cls := findClass_of_methodNamed Bd.named
  have hnm := (name_of_methodNamed Bd.named Bd.method).1
  have X0 : Stand p l e (Room.mk 8 0 0 124) s m #[(.ref ob), (.ref nm), .null, (.ref od)] below meth c s₁ [] 0 0 := Stand.of_body Bd
  have e0 : s₁.heap = h0 := by rw [← hh, Bd.state]; rfl
  have N0 := Fr.nil n0
  have pre0 : ∀ t, Steps p.tables e below (s₁.setTop (mkF m 0 #[rv ob, rv nm, .val .null, rv od] [])) t → Steps p.tables e below (s₁.setTop (entryFrame m #[(.ref ob), (.ref nm), .null, (.ref od)] 4)) t := fun t k => castTop (ef_pn_2 m ob nm od) k
  have wo35 := hw _ (own_m 35 rfl)
  have wo122 := hw _ (own_m 122 rfl)
  have wo123 := hw _ (own_m 123 rfl)
  have wo145 := hw _ (own_m 145 rfl)
  have wo146 := hw _ (own_m 146 rfl)
  have wo147 := hw _ (own_m 147 rfl)
  have wo148 := hw _ (own_m 148 rfl)
  have wo149 := hw _ (own_m 149 rfl)
  have wo150 := hw _ (own_m 150 rfl)
  have wo151 := hw _ (own_m 151 rfl)
  have wo152 := hw _ (own_m 152 rfl)
  have wo153 := hw _ (own_m 153 rfl)
  obtain ⟨cq1, kq1, q1a, q1b, q1c⟩ := isOf hZ e0 pf_E_nm
  obtain ⟨_, _, ⟨T1, L1, k1, n1⟩, -, X1, ⟨Lc1, hQ1, l1, y1, z1⟩, st1⟩ := X0.virtualBack hx (y := MN29) (z := MN29) hown (mvT hZ wo145) (mvT hZ wo146) (notFace_of_selects (args := #[]) (mvT hZ wo148)) (mvT hZ wo148) (mvT hZ wo147) (by decide) (backOf (W := 1) (ts l Z a0 hw [] nm st_ h0 n0 Z0 pf_F_nm_text) hZ wo149 wo35 (by decide) (by decide)) q1a q1c (g := (mkF m 2 #[rv ob, rv nm, .val .null, rv od] [(.ref nm), (.ref ob)])) rfl (by rw [hml]; rfl) (Steps.refl _) (argsL := []) (rest := [(.ref ob)]) (lenOf pd_2 rfl) rfl (by show 2 * 0 + _ ≤ _; exact Nat.le_of_eq rfl) (hb hby d28_2) (fun _ _ => ⟨rfl, e0, (by decide : 0 + 0 ≤ _), (by decide : 0 + 0 ≤ _)⟩)
  dsimp only [Pt.U, Pt.locs, Pt.cells, Pt.slots] at X1 l1 y1 z1 st1 hQ1
  rw [l1, y1, z1] at X1
  obtain ⟨rfl, N1q, K1q⟩ := hQ1
  have N2 := Fr.app N0 N1q
  obtain ⟨cq3, q3, q3'⟩ := pf_E_ob.cell
  obtain ⟨_, _, ⟨T3, L3, k3, n3⟩, -, X3, ⟨Lc3, hQ3, l3, y3, z3⟩, st3⟩ := X1.privateBack hx (y := MN30) hown (mvT hZ wo150) (mvT hZ wo151) (own_sel (Cond.privateMethod_at (mvP hZ wo152 (args := #[]))) (mvT hZ wo151) (mvT hZ wo122 (args := #[])) (by decide)) (Cond.privateMethod_at (mvP hZ wo152 (args := #[]))) (mvT hZ wo153) (by decide) (backOf (W := 0) (pu_2 l Z a0 hw [] ob sl va re SL RL sd u_ od OL n_ ha_ ua_ na_ Oa_ wa_ st_ sv_ c0 c1 cs fm h0 n0 Z0 pf_O pS_COMPAC hcs pS_SIOOBE rfm pf_E_st_ pf_F_st__value pf_F_st__coder pf_A_sv_ hrA pf_E_ob pf_F_ob_slots pf_F_ob_values pf_F_ob_records pf_A_sl pf_L_va pf_A_re pf_F_ob_seed pf_F_ob_used pf_F_ob_unused pf_F_ob_size pf_A_od hu hn hOL hT hu1 hn1 hu2 pf_G_ob pf_G_sl pf_G_va pf_G_re pf_NE_ob_sl pf_NE_ob_va pf_NE_ob_re pf_NE_sl_va pf_NE_sl_re pf_NE_va_re pf_NE_st__ob pf_NE_st__sl pf_NE_st__va pf_NE_st__re pf_NE_sv__ob pf_NE_sv__sl pf_NE_sv__va pf_NE_sv__re pf_NE_od_ob pf_NE_od_sl pf_NE_od_va pf_NE_od_re) hZ wo153 wo123 (by decide) (by decide)) (g := (mkF m 8 #[rv ob, rv nm, .val .null, rv od] [(.ref od), .null, .null, (.ref st_), (.ref ob)])) rfl (by rw [hml]; rfl) (Steps.refl _) (a := ob) (by rw [K1q]; exact q3) q3' (argsL := [(.ref st_), .null, .null, (.ref od)]) (rest := []) (lenOf pd_30 rfl) rfl (by show 2 * 0 + _ ≤ _; exact Nat.le_of_eq rfl) (hb hby d28_8) (fun _ _ => ⟨rfl, K1q, (by decide : 0 + 0 ≤ _), (by decide : 0 + 0 ≤ _)⟩)
  dsimp only [Pt.U, Pt.locs, Pt.cells, Pt.slots] at X3 l3 y3 z3 st3 hQ3
  rw [l3, y3, z3] at X3
  obtain ⟨SL2_3, RL2_3, rfl, N3q, K3q, hq3_0, hq3_1, hq3_2, hq3_3, hq3_4, hq3_5, hq3_6, hq3_7, hq3_8, hq3_9, hq3_10⟩ := hQ3
  have N4 := Fr.app N2 N3q
  have K5 : Keep h0 T3.heap [ob, sl, va, re] := (Keep.refl h0 [ob, sl, va, re]).trans K3q (allS (P := fun x => x ∈ [ob, sl, va, re] ∨ h0.size ≤ x) (Or.inl (own_m 0 rfl)) (allS (P := fun x => x ∈ [ob, sl, va, re] ∨ h0.size ≤ x) (Or.inl (own_m 1 rfl)) (allS (P := fun x => x ∈ [ob, sl, va, re] ∨ h0.size ≤ x) (Or.inl (own_m 2 rfl)) (allS (P := fun x => x ∈ [ob, sl, va, re] ∨ h0.size ≤ x) (Or.inl (own_m 3 rfl)) all0))))
  obtain ⟨fs, hr, hrun, hended, hW, hsame⟩ := X3.leave (v := none) (fun _ => rfl)
  refine ⟨_, _, pre0 _ ?_, hrun, hended, _, _, rfl, ?_, ⟨_, rfl⟩, hW, hsame.mono (by decide) (by decide)⟩
  · show Steps _ _ _ (State.setTop _ (mkF m 0 #[rv ob, rv nm, .val .null, rv od] [])) _
    refine XS.aloadN X0.here hx rfl (hb hby d28_0) rfl rfl ?_
    show Steps _ _ _ (State.setTop _ (mkF m 1 #[rv ob, rv nm, .val .null, rv od] [(.ref ob)])) _
    refine XS.aloadN X0.here hx rfl (hb hby d28_1) rfl rfl ?_
    refine st1.trans ?_
    refine XS.aconstNull X1.here hx rfl (hb hby d28_5) ?_
    refine XS.aloadN X1.here hx rfl (hb hby d28_6) rfl rfl ?_
    refine XS.aloadN X1.here hx rfl (hb hby d28_7) rfl rfl ?_
    refine st3.trans ?_
    show Steps _ _ _ (State.setTop _ (mkF m 11 #[rv ob, rv nm, .val .null, rv od] [])) _
    exact X3.returnOut hx Bd.returns (hb hby d28_11) hr
  · show Q_pn_2 Z _ _ _ _ _ _ _ _ _ _ _ _ _ _ _ _ _ _ _ _ _ _ _ h0 n0 _ T3.heap _
    exact ⟨SL2_3, RL2_3, rfl, N4, (K5), hq3_0, hq3_1, hq3_2, hq3_3, hq3_4, hq3_5, hq3_6, hq3_7, hq3_8, hq3_9, hq3_10⟩
theorem d41_0 : decode prog_25_method_17_code 0 = .ok (.aload_n 0, 1) := by decide +kernel
theorem d41_1 : decode prog_25_method_17_code 1 = .ok (.aload_n 0, 1) := by decide +kernel
theorem d41_2 : decode prog_25_method_17_code 2 = .ok (.aload_n 1, 1) := by decide +kernel
theorem d41_3 : decode prog_25_method_17_code 3 = .ok (.aload_n 2, 1) := by decide +kernel
theorem d41_4 : decode prog_25_method_17_code 4 = .ok (.invokevirtual 93, 3) := by decide +kernel
theorem d41_7 : decode prog_25_method_17_code 7 = .ok (.aload_n 1, 1) := by decide +kernel
theorem d41_8 : decode prog_25_method_17_code 8 = .ok (.aload_n 2, 1) := by decide +kernel
theorem d41_9 : decode prog_25_method_17_code 9 = .ok (.invokevirtual 96, 3) := by decide +kernel
theorem d41_12 : decode prog_25_method_17_code 12 = .ok (.ireturn, 1) := by decide +kernel
theorem ef_fs_1 (m : MethodId) (x0 x1 : Addr) : entryFrame m #[(.ref x0), (.ref x1), .null] 3 = mkF m 0 #[rv x0, rv x1, .val .null] [] := by first | (simp [entryFrame, mkF, argsToLocals, Value.category]; done) | rfl
def Q_fs_1 (Z : State) (ob sl va re : Addr) (SL RL : List Int32) (sd ua_ na_ : Int32) (Oa_ : List Int32) (hb_ ub_ nb_ : Int32) (Ob_ : List Int32) (wb_ : Int32) (st_ sv_ : Addr) (c0 cs : Int32) (fm : Value) (h0 : Heap) (n0 : Nat) (v : Option Value) (h : Heap) (L : List Loc) : Prop := v = some (.int ((own_hash sd (1 : Int32) c0) &&& 7)) ∧ Fr n0 L ∧ h = h0
set_option maxRecDepth 65536 in
set_option maxHeartbeats 40000000 in
theorem fs_1 (l : Launch) (Z : State) (a0 : Array Value) (hw : ∀ d ∈ tables_1, d.before a0 Z = true) (ws : List Jvm.Cond) (ob sl va re : Addr) (SL RL : List Int32) (sd ua_ na_ : Int32) (Oa_ : List Int32) (hb_ ub_ nb_ : Int32) (Ob_ : List Int32) (wb_ : Int32) (st_ sv_ : Addr) (c0 cs : Int32) (fm : Value) (h0 : Heap) (n0 : Nat) (Z0 : n0 ≤ h0.size) (pf_O : Old Z n0 h0) (pS_COMPAC : Sta Z Z.heap "java/lang/String" "COMPACT_STRINGS" "Z" (.int cs)) (hcs : ¬ (cs = 0)) (pS_SIOOBE : Sta Z Z.heap "jdk/internal/util/Preconditions" "SIOOBE_FORMATTER" "Ljava/util/function/BiFunction;" fm) (rfm : fm.isRef = true) (pf_E_st_ : Exa Z h0 st_ "java/lang/String") (pf_F_st__value : Fld Z h0 st_ "java/lang/String" "value" "[B" (.ref sv_)) (pf_F_st__coder : Fld Z h0 st_ "java/lang/String" "coder" "B" (.int 0)) (pf_A_sv_ : Av Z h0 sv_ .byte (1 : Int32) (own_vs [c0]) (.int 0)) (hrA : ∀ c ∈ ([c0] : List Int32), ¬ c < 0 ∧ ¬ (255 : Int32) < c) (pf_E_ob : Exa Z h0 ob "com/example/arbiter/arbiter/OrdinalTable") (pf_F_ob_slots : Fld Z h0 ob "com/example/arbiter/arbiter/OrdinalTable" "slots" "[I" (.ref sl)) (pf_F_ob_values : Fld Z h0 ob "com/example/arbiter/arbiter/OrdinalTable" "values" "[Ljava/lang/Object;" (.ref va)) (pf_F_ob_records : Fld Z h0 ob "com/example/arbiter/arbiter/OrdinalTable" "records" "[I" (.ref re)) (pf_A_sl : Av Z h0 sl .int 16 (own_cv SL) (.int 0)) (pf_L_va : Al Z h0 va (.object "java/lang/Object") (8 : Int32)) (pf_A_re : Av Z h0 re .int 64 (own_cv RL) (.int 0)) (pf_F_ob_seed : Fld Z h0 ob "com/example/arbiter/arbiter/OrdinalTable" "seed" "I" (.int sd)) (hT : own_T2 SL RL (own_hash sd (1 : Int32) c0) ua_ na_ Oa_ c0 hb_ ub_ nb_ Ob_ wb_) (hu1 : 0 < ua_.toInt ∧ ua_.toInt < 20) (hn1 : 0 < na_.toInt ∧ na_.toInt < 5) :
    MetFree l MN41 (head1 (Jvm.Cond.code MN41 prog_25_method_17_code 3 (some .int) :: ws) (Room.mk 8 0 0 120)) (fun a U => a = #[(.ref ob), (.ref st_), .null] ∧ Z.Warmed39 U.vm ∧ U.heap = h0) (fun _ _ _ _ _ => True) (fun _ U o U' => ∃ v L, o = .returned v ∧ Q_fs_1 Z ob sl va re SL RL sd ua_ na_ Oa_ hb_ ub_ nb_ Ob_ wb_ st_ sv_ c0 cs fm h0 n0 v U'.heap L ∧ FrameEnd U o U' L (Room.mk 8 0 0 120).cells (Room.mk 8 0 0 120).slots) := by
  refine MetFree.of_bodySF (plainFor_of_name pn_com_example_arbiter_arbiter_OrdinalTable) hisR ?_
  intro p e s m args below meth c s₁ Bd hml0 hP hK
  obtain ⟨rfl, hZ, hh⟩ := hP
  have hx := Bd.exec
  have hby := Bd.bytes
  have hml : c.maxLocals = 3 := hml0
  have hown : s.vm.findClass "com/example/arbiter/arbiter/OrdinalTable" = some m.cls := findClass_of_methodNamed Bd.named
  have hnm := (name_of_methodNamed Bd.named Bd.method).1
  have X0 : Stand p l e (Room.mk 8 0 0 120) s m #[(.ref ob), (.ref st_), .null] below meth c s₁ [] 0 0 := Stand.of_body Bd
  have e0 : s₁.heap = h0 := by rw [← hh, Bd.state]; rfl
  have N0 := Fr.nil n0
  have pre0 : ∀ t, Steps p.tables e below (s₁.setTop (mkF m 0 #[rv ob, rv st_, .val .null] [])) t → Steps p.tables e below (s₁.setTop (entryFrame m #[(.ref ob), (.ref st_), .null] 3)) t := fun t k => castTop (ef_fs_1 m ob st_) k
  have wo122 := hw _ (own_m 122 rfl)
  have wo123 := hw _ (own_m 123 rfl)
  have wo154 := hw _ (own_m 154 rfl)
  have wo155 := hw _ (own_m 155 rfl)
  have wo156 := hw _ (own_m 156 rfl)
  have wo157 := hw _ (own_m 157 rfl)
  have wo168 := hw _ (own_m 168 rfl)
  have wo169 := hw _ (own_m 169 rfl)
  have wo170 := hw _ (own_m 170 rfl)
  have wo171 := hw _ (own_m 171 rfl)
  obtain ⟨cq1, q1, q1'⟩ := pf_E_ob.cell
  obtain ⟨_, _, ⟨T1, L1, k1, n1⟩, -, X1, ⟨Lc1, hQ1, l1, y1, z1⟩, st1⟩ := X0.privateBack hx (y := MN31) hown (mvT hZ wo154) (mvT hZ wo155) (own_sel (Cond.privateMethod_at (mvP hZ wo156 (args := #[]))) (mvT hZ wo155) (mvT hZ wo122 (args := #[])) (by decide)) (Cond.privateMethod_at (mvP hZ wo156 (args := #[]))) (mvT hZ wo157) (by decide) (backOf (W := 1) (ha_1 l Z a0 hw [] ob sd st_ sv_ c0 cs fm h0 n0 Z0 pf_O pS_COMPAC hcs pS_SIOOBE rfm pf_E_st_ pf_F_st__value pf_F_st__coder pf_A_sv_ hrA pf_F_ob_seed) hZ wo157 wo123 (by decide) (by decide)) (g := (mkF m 4 #[rv ob, rv st_, .val .null] [.null, (.ref st_), (.ref ob), (.ref ob)])) rfl (by rw [hml]; rfl) (Steps.refl _) (a := ob) (by rw [e0]; exact q1) q1' (argsL := [(.ref st_), .null]) (rest := [(.ref ob)]) (lenOf pd_29 rfl) rfl (by show 2 * 0 + _ ≤ _; exact Nat.le_of_eq rfl) (hb hby d41_4) (fun _ _ => ⟨rfl, e0, (by decide : 0 + 0 ≤ _), (by decide : 0 + 0 ≤ _)⟩)
  dsimp only [Pt.U, Pt.locs, Pt.cells, Pt.slots] at X1 l1 y1 z1 st1 hQ1
  rw [l1, y1, z1] at X1
  obtain ⟨rfl, N1q, K1q⟩ := hQ1
  have N2 := Fr.app N0 N1q
  obtain ⟨cq3, q3, q3'⟩ := pf_E_ob.cell
  obtain ⟨_, _, ⟨T3, L3, k3, n3⟩, -, X3, ⟨Lc3, hQ3, l3, y3, z3⟩, st3⟩ := X1.privateBack hx (y := MN34) hown (mvT hZ wo168) (mvT hZ wo169) (own_sel (Cond.privateMethod_at (mvP hZ wo170 (args := #[]))) (mvT hZ wo169) (mvT hZ wo122 (args := #[])) (by decide)) (Cond.privateMethod_at (mvP hZ wo170 (args := #[]))) (mvT hZ wo171) (by decide) (backOf (W := 0) (fi_1h l Z a0 hw [] ob sl va re SL RL (own_hash sd (1 : Int32) c0) ua_ na_ Oa_ hb_ ub_ nb_ Ob_ wb_ st_ sv_ c0 cs fm h0 n0 Z0 pf_O pS_COMPAC hcs pS_SIOOBE rfm pf_E_st_ pf_F_st__value pf_F_st__coder pf_A_sv_ hrA pf_E_ob pf_F_ob_slots pf_F_ob_values pf_F_ob_records pf_A_sl pf_L_va pf_A_re hT hu1 hn1) hZ wo171 wo123 (by decide) (by decide)) (g := (mkF m 9 #[rv ob, rv st_, .val .null] [.null, (.ref st_), (.int (own_hash sd (1 : Int32) c0)), (.ref ob)])) rfl (by rw [hml]; rfl) (Steps.refl _) (a := ob) (by rw [K1q]; exact q3) q3' (argsL := [(.int (own_hash sd (1 : Int32) c0)), (.ref st_), .null]) (rest := []) (lenOf pd_19 rfl) rfl (by show 2 * 0 + _ ≤ _; exact Nat.le_of_eq rfl) (hb hby d41_9) (fun _ _ => ⟨rfl, K1q, (by decide : 0 + 0 ≤ _), (by decide : 0 + 0 ≤ _)⟩)
  dsimp only [Pt.U, Pt.locs, Pt.cells, Pt.slots] at X3 l3 y3 z3 st3 hQ3
  rw [l3, y3, z3] at X3
  obtain ⟨rfl, N3q, K3q⟩ := hQ3
  have N4 := Fr.app N2 N3q
  obtain ⟨fs, hr, hrun, hended, hW, hsame⟩ := X3.leave (v := some (.int ((own_hash sd (1 : Int32) c0) &&& 7))) (fun h => by rw [Bd.returns] at h; cases h)
  refine ⟨_, _, pre0 _ ?_, hrun, hended, _, _, rfl, ?_, ⟨_, rfl⟩, hW, hsame.mono (by decide) (by decide)⟩
  · show Steps _ _ _ (State.setTop _ (mkF m 0 #[rv ob, rv st_, .val .null] [])) _
    refine XS.aloadN X0.here hx rfl (hb hby d41_0) rfl rfl ?_
    show Steps _ _ _ (State.setTop _ (mkF m 1 #[rv ob, rv st_, .val .null] [(.ref ob)])) _
    refine XS.aloadN X0.here hx rfl (hb hby d41_1) rfl rfl ?_
    refine XS.aloadN X0.here hx rfl (hb hby d41_2) rfl rfl ?_
    refine XS.aloadN X0.here hx rfl (hb hby d41_3) rfl rfl ?_
    refine st1.trans ?_
    refine XS.aloadN X1.here hx rfl (hb hby d41_7) rfl rfl ?_
    refine XS.aloadN X1.here hx rfl (hb hby d41_8) rfl rfl ?_
    refine st3.trans ?_
    show Steps _ _ _ (State.setTop _ (mkF m 12 #[rv ob, rv st_, .val .null] [(.int ((own_hash sd (1 : Int32) c0) &&& 7))])) _
    exact retI X3 hx Bd.returns (hb hby d41_12) hr
  · show Q_fs_1 Z _ _ _ _ _ _ _ _ _ _ _ _ _ _ _ _ _ _ _ _ h0 n0 _ T3.heap _
    rw [K3q]
    exact ⟨rfl, N4, rfl⟩
theorem ef_fs_2 (m : MethodId) (x0 x1 : Addr) : entryFrame m #[(.ref x0), (.ref x1), .null] 3 = mkF m 0 #[rv x0, rv x1, .val .null] [] := by first | (simp [entryFrame, mkF, argsToLocals, Value.category]; done) | rfl
def Q_fs_2 (Z : State) (ob sl va re : Addr) (SL RL : List Int32) (sd ha_ ua_ na_ : Int32) (Oa_ : List Int32) (wa_ ub_ nb_ : Int32) (Ob_ : List Int32) (st_ sv_ : Addr) (c0 c1 cs : Int32) (fm : Value) (h0 : Heap) (n0 : Nat) (v : Option Value) (h : Heap) (L : List Loc) : Prop := v = some (.int (own_sl2 (own_hash sd (2 : Int32) (c0 ||| (c1 <<< ((16 : Int32) &&& 31)))) (ha_ &&& 7))) ∧ Fr n0 L ∧ h = h0
set_option maxRecDepth 65536 in
set_option maxHeartbeats 40000000 in
theorem fs_2 (l : Launch) (Z : State) (a0 : Array Value) (hw : ∀ d ∈ tables_1, d.before a0 Z = true) (ws : List Jvm.Cond) (ob sl va re : Addr) (SL RL : List Int32) (sd ha_ ua_ na_ : Int32) (Oa_ : List Int32) (wa_ ub_ nb_ : Int32) (Ob_ : List Int32) (st_ sv_ : Addr) (c0 c1 cs : Int32) (fm : Value) (h0 : Heap) (n0 : Nat) (Z0 : n0 ≤ h0.size) (pf_O : Old Z n0 h0) (pS_COMPAC : Sta Z Z.heap "java/lang/String" "COMPACT_STRINGS" "Z" (.int cs)) (hcs : ¬ (cs = 0)) (pS_SIOOBE : Sta Z Z.heap "jdk/internal/util/Preconditions" "SIOOBE_FORMATTER" "Ljava/util/function/BiFunction;" fm) (rfm : fm.isRef = true) (pf_E_st_ : Exa Z h0 st_ "java/lang/String") (pf_F_st__value : Fld Z h0 st_ "java/lang/String" "value" "[B" (.ref sv_)) (pf_F_st__coder : Fld Z h0 st_ "java/lang/String" "coder" "B" (.int 0)) (pf_A_sv_ : Av Z h0 sv_ .byte (2 : Int32) (own_vs [c0, c1]) (.int 0)) (hrA : ∀ c ∈ ([c0, c1] : List Int32), ¬ c < 0 ∧ ¬ (255 : Int32) < c) (pf_E_ob : Exa Z h0 ob "com/example/arbiter/arbiter/OrdinalTable") (pf_F_ob_slots : Fld Z h0 ob "com/example/arbiter/arbiter/OrdinalTable" "slots" "[I" (.ref sl)) (pf_F_ob_values : Fld Z h0 ob "com/example/arbiter/arbiter/OrdinalTable" "values" "[Ljava/lang/Object;" (.ref va)) (pf_F_ob_records : Fld Z h0 ob "com/example/arbiter/arbiter/OrdinalTable" "records" "[I" (.ref re)) (pf_A_sl : Av Z h0 sl .int 16 (own_cv SL) (.int 0)) (pf_L_va : Al Z h0 va (.object "java/lang/Object") (8 : Int32)) (pf_A_re : Av Z h0 re .int 64 (own_cv RL) (.int 0)) (pf_F_ob_seed : Fld Z h0 ob "com/example/arbiter/arbiter/OrdinalTable" "seed" "I" (.int sd)) (hT : own_T2 SL RL ha_ ua_ na_ Oa_ wa_ (own_hash sd (2 : Int32) (c0 ||| (c1 <<< ((16 : Int32) &&& 31)))) ub_ nb_ Ob_ (c0 ||| (c1 <<< ((16 : Int32) &&& 31)))) (hu1 : 0 < ua_.toInt ∧ ua_.toInt < 20) (hn1 : 0 < na_.toInt ∧ na_.toInt < 5) (hu2 : 0 < ub_.toInt ∧ ub_.toInt < 20) (hn2 : 0 < nb_.toInt ∧ nb_.toInt < 5) :
    MetFree l MN41 (head1 (Jvm.Cond.code MN41 prog_25_method_17_code 3 (some .int) :: ws) (Room.mk 8 0 0 121)) (fun a U => a = #[(.ref ob), (.ref st_), .null] ∧ Z.Warmed39 U.vm ∧ U.heap = h0) (fun _ _ _ _ _ => True) (fun _ U o U' => ∃ v L, o = .returned v ∧ Q_fs_2 Z ob sl va re SL RL sd ha_ ua_ na_ Oa_ wa_ ub_ nb_ Ob_ st_ sv_ c0 c1 cs fm h0 n0 v U'.heap L ∧ FrameEnd U o U' L (Room.mk 8 0 0 121).cells (Room.mk 8 0 0 121).slots) := by
  refine MetFree.of_bodySF (plainFor_of_name pn_com_example_arbiter_arbiter_OrdinalTable) hisR ?_
  intro p e s m args below meth c s₁ Bd hml0 hP hK
  obtain ⟨rfl, hZ, hh⟩ := hP
  have hx := Bd.exec
  have hby := Bd.bytes
  have hml : c.maxLocals = 3 := hml0
  have hown : s.vm.findClass "com/example/arbiter/arbiter/OrdinalTable" = some m.cls := findClass_of_methodNamed Bd.named
  have hnm := (name_of_methodNamed Bd.named Bd.method).1
  have X0 : Stand p l e (Room.mk 8 0 0 121) s m #[(.ref ob), (.ref st_), .null] below meth c s₁ [] 0 0 := Stand.of_body Bd
  have e0 : s₁.heap = h0 := by rw [← hh, Bd.state]; rfl
  have N0 := Fr.nil n0
  have pre0 : ∀ t, Steps p.tables e below (s₁.setTop (mkF m 0 #[rv ob, rv st_, .val .null] [])) t → Steps p.tables e below (s₁.setTop (entryFrame m #[(.ref ob), (.ref st_), .null] 3)) t := fun t k => castTop (ef_fs_2 m ob st_) k
  have wo122 := hw _ (own_m 122 rfl)
  have wo123 := hw _ (own_m 123 rfl)
  have wo154 := hw _ (own_m 154 rfl)
  have wo155 := hw _ (own_m 155 rfl)
  have wo156 := hw _ (own_m 156 rfl)
  have wo157 := hw _ (own_m 157 rfl)
  have wo168 := hw _ (own_m 168 rfl)
  have wo169 := hw _ (own_m 169 rfl)
  have wo170 := hw _ (own_m 170 rfl)
  have wo171 := hw _ (own_m 171 rfl)
  obtain ⟨cq1, q1, q1'⟩ := pf_E_ob.cell
  obtain ⟨_, _, ⟨T1, L1, k1, n1⟩, -, X1, ⟨Lc1, hQ1, l1, y1, z1⟩, st1⟩ := X0.privateBack hx (y := MN31) hown (mvT hZ wo154) (mvT hZ wo155) (own_sel (Cond.privateMethod_at (mvP hZ wo156 (args := #[]))) (mvT hZ wo155) (mvT hZ wo122 (args := #[])) (by decide)) (Cond.privateMethod_at (mvP hZ wo156 (args := #[]))) (mvT hZ wo157) (by decide) (backOf (W := 1) (ha_2 l Z a0 hw [] ob sd st_ sv_ c0 c1 cs fm h0 n0 Z0 pf_O pS_COMPAC hcs pS_SIOOBE rfm pf_E_st_ pf_F_st__value pf_F_st__coder pf_A_sv_ hrA pf_F_ob_seed) hZ wo157 wo123 (by decide) (by decide)) (g := (mkF m 4 #[rv ob, rv st_, .val .null] [.null, (.ref st_), (.ref ob), (.ref ob)])) rfl (by rw [hml]; rfl) (Steps.refl _) (a := ob) (by rw [e0]; exact q1) q1' (argsL := [(.ref st_), .null]) (rest := [(.ref ob)]) (lenOf pd_29 rfl) rfl (by show 2 * 0 + _ ≤ _; exact Nat.le_of_eq rfl) (hb hby d41_4) (fun _ _ => ⟨rfl, e0, (by decide : 0 + 0 ≤ _), (by decide : 0 + 0 ≤ _)⟩)
  dsimp only [Pt.U, Pt.locs, Pt.cells, Pt.slots] at X1 l1 y1 z1 st1 hQ1
  rw [l1, y1, z1] at X1
  obtain ⟨rfl, N1q, K1q⟩ := hQ1
  have N2 := Fr.app N0 N1q
  obtain ⟨cq3, q3, q3'⟩ := pf_E_ob.cell
  obtain ⟨_, _, ⟨T3, L3, k3, n3⟩, -, X3, ⟨Lc3, hQ3, l3, y3, z3⟩, st3⟩ := X1.privateBack hx (y := MN34) hown (mvT hZ wo168) (mvT hZ wo169) (own_sel (Cond.privateMethod_at (mvP hZ wo170 (args := #[]))) (mvT hZ wo169) (mvT hZ wo122 (args := #[])) (by decide)) (Cond.privateMethod_at (mvP hZ wo170 (args := #[]))) (mvT hZ wo171) (by decide) (backOf (W := 0) (fi_2h l Z a0 hw [] ob sl va re SL RL (own_hash sd (2 : Int32) (c0 ||| (c1 <<< ((16 : Int32) &&& 31)))) ha_ ua_ na_ Oa_ wa_ ub_ nb_ Ob_ st_ sv_ c0 c1 cs fm h0 n0 Z0 pf_O pS_COMPAC hcs pS_SIOOBE rfm pf_E_st_ pf_F_st__value pf_F_st__coder pf_A_sv_ hrA pf_E_ob pf_F_ob_slots pf_F_ob_values pf_F_ob_records pf_A_sl pf_L_va pf_A_re hT hu1 hn1 hu2 hn2) hZ wo171 wo123 (by decide) (by decide)) (g := (mkF m 9 #[rv ob, rv st_, .val .null] [.null, (.ref st_), (.int (own_hash sd (2 : Int32) (c0 ||| (c1 <<< ((16 : Int32) &&& 31))))), (.ref ob)])) rfl (by rw [hml]; rfl) (Steps.refl _) (a := ob) (by rw [K1q]; exact q3) q3' (argsL := [(.int (own_hash sd (2 : Int32) (c0 ||| (c1 <<< ((16 : Int32) &&& 31))))), (.ref st_), .null]) (rest := []) (lenOf pd_19 rfl) rfl (by show 2 * 0 + _ ≤ _; exact Nat.le_of_eq rfl) (hb hby d41_9) (fun _ _ => ⟨rfl, K1q, (by decide : 0 + 0 ≤ _), (by decide : 0 + 0 ≤ _)⟩)
  dsimp only [Pt.U, Pt.locs, Pt.cells, Pt.slots] at X3 l3 y3 z3 st3 hQ3
  rw [l3, y3, z3] at X3
  obtain ⟨rfl, N3q, K3q⟩ := hQ3
  have N4 := Fr.app N2 N3q
  obtain ⟨fs, hr, hrun, hended, hW, hsame⟩ := X3.leave (v := some (.int (own_sl2 (own_hash sd (2 : Int32) (c0 ||| (c1 <<< ((16 : Int32) &&& 31)))) (ha_ &&& 7)))) (fun h => by rw [Bd.returns] at h; cases h)
  refine ⟨_, _, pre0 _ ?_, hrun, hended, _, _, rfl, ?_, ⟨_, rfl⟩, hW, hsame.mono (by decide) (by decide)⟩
  · show Steps _ _ _ (State.setTop _ (mkF m 0 #[rv ob, rv st_, .val .null] [])) _
    refine XS.aloadN X0.here hx rfl (hb hby d41_0) rfl rfl ?_
    show Steps _ _ _ (State.setTop _ (mkF m 1 #[rv ob, rv st_, .val .null] [(.ref ob)])) _
    refine XS.aloadN X0.here hx rfl (hb hby d41_1) rfl rfl ?_
    refine XS.aloadN X0.here hx rfl (hb hby d41_2) rfl rfl ?_
    refine XS.aloadN X0.here hx rfl (hb hby d41_3) rfl rfl ?_
    refine st1.trans ?_
    refine XS.aloadN X1.here hx rfl (hb hby d41_7) rfl rfl ?_
    refine XS.aloadN X1.here hx rfl (hb hby d41_8) rfl rfl ?_
    refine st3.trans ?_
    show Steps _ _ _ (State.setTop _ (mkF m 12 #[rv ob, rv st_, .val .null] [(.int (own_sl2 (own_hash sd (2 : Int32) (c0 ||| (c1 <<< ((16 : Int32) &&& 31)))) (ha_ &&& 7)))])) _
    exact retI X3 hx Bd.returns (hb hby d41_12) hr
  · show Q_fs_2 Z _ _ _ _ _ _ _ _ _ _ _ _ _ _ _ _ _ _ _ _ _ h0 n0 _ T3.heap _
    rw [K3q]
    exact ⟨rfl, N4, rfl⟩
theorem d40_0 : decode prog_25_method_5_code 0 = .ok (.aload_n 0, 1) := by decide +kernel
theorem d40_1 : decode prog_25_method_5_code 1 = .ok (.aload_n 1, 1) := by decide +kernel
theorem d40_2 : decode prog_25_method_5_code 2 = .ok (.invokevirtual 52, 3) := by decide +kernel
theorem d40_5 : decode prog_25_method_5_code 5 = .ok (.aconst_null, 1) := by decide +kernel
theorem d40_6 : decode prog_25_method_5_code 6 = .ok (.invokevirtual 58, 3) := by decide +kernel
theorem d40_9 : decode prog_25_method_5_code 9 = .ok (.ireturn, 1) := by decide +kernel
theorem ef_fn_1 (m : MethodId) (x0 x1 : Addr) : entryFrame m #[(.ref x0), (.ref x1)] 2 = mkF m 0 #[rv x0, rv x1] [] := by first | (simp [entryFrame, mkF, argsToLocals, Value.category]; done) | rfl
def Q_fn_1 (Z : State) (ob sl va re : Addr) (SL RL : List Int32) (sd ua_ na_ : Int32) (Oa_ : List Int32) (hb_ ub_ nb_ : Int32) (Ob_ : List Int32) (wb_ : Int32) (nm st_ sv_ : Addr) (c0 cs : Int32) (fm : Value) (h0 : Heap) (n0 : Nat) (v : Option Value) (h : Heap) (L : List Loc) : Prop := v = some (.int ((own_hash sd (1 : Int32) c0) &&& 7)) ∧ Fr n0 L ∧ h = h0
set_option maxRecDepth 65536 in
set_option maxHeartbeats 40000000 in
theorem fn_1 (l : Launch) (Z : State) (a0 : Array Value) (hw : ∀ d ∈ tables_1, d.before a0 Z = true) (ws : List Jvm.Cond) (ob sl va re : Addr) (SL RL : List Int32) (sd ua_ na_ : Int32) (Oa_ : List Int32) (hb_ ub_ nb_ : Int32) (Ob_ : List Int32) (wb_ : Int32) (nm st_ sv_ : Addr) (c0 cs : Int32) (fm : Value) (h0 : Heap) (n0 : Nat) (Z0 : n0 ≤ h0.size) (pf_O : Old Z n0 h0) (pS_COMPAC : Sta Z Z.heap "java/lang/String" "COMPACT_STRINGS" "Z" (.int cs)) (hcs : ¬ (cs = 0)) (pS_SIOOBE : Sta Z Z.heap "jdk/internal/util/Preconditions" "SIOOBE_FORMATTER" "Ljava/util/function/BiFunction;" fm) (rfm : fm.isRef = true) (pf_E_st_ : Exa Z h0 st_ "java/lang/String") (pf_F_st__value : Fld Z h0 st_ "java/lang/String" "value" "[B" (.ref sv_)) (pf_F_st__coder : Fld Z h0 st_ "java/lang/String" "coder" "B" (.int 0)) (pf_A_sv_ : Av Z h0 sv_ .byte (1 : Int32) (own_vs [c0]) (.int 0)) (hrA : ∀ c ∈ ([c0] : List Int32), ¬ c < 0 ∧ ¬ (255 : Int32) < c) (pf_E_ob : Exa Z h0 ob "com/example/arbiter/arbiter/OrdinalTable") (pf_F_ob_slots : Fld Z h0 ob "com/example/arbiter/arbiter/OrdinalTable" "slots" "[I" (.ref sl)) (pf_F_ob_values : Fld Z h0 ob "com/example/arbiter/arbiter/OrdinalTable" "values" "[Ljava/lang/Object;" (.ref va)) (pf_F_ob_records : Fld Z h0 ob "com/example/arbiter/arbiter/OrdinalTable" "records" "[I" (.ref re)) (pf_A_sl : Av Z h0 sl .int 16 (own_cv SL) (.int 0)) (pf_L_va : Al Z h0 va (.object "java/lang/Object") (8 : Int32)) (pf_A_re : Av Z h0 re .int 64 (own_cv RL) (.int 0)) (pf_F_ob_seed : Fld Z h0 ob "com/example/arbiter/arbiter/OrdinalTable" "seed" "I" (.int sd)) (hT : own_T2 SL RL (own_hash sd (1 : Int32) c0) ua_ na_ Oa_ c0 hb_ ub_ nb_ Ob_ wb_) (hu1 : 0 < ua_.toInt ∧ ua_.toInt < 20) (hn1 : 0 < na_.toInt ∧ na_.toInt < 5) (pf_E_nm : Exa Z h0 nm "com/example/arbiter/arbiter/Name") (pf_F_nm_text : Fld Z h0 nm "com/example/arbiter/arbiter/Name" "text" "Ljava/lang/String;" (.ref st_)) :
    MetFree l MN40 (head1 (Jvm.Cond.code MN40 prog_25_method_5_code 2 (some .int) :: ws) (Room.mk 9 0 0 134)) (fun a U => a = #[(.ref ob), (.ref nm)] ∧ Z.Warmed39 U.vm ∧ U.heap = h0) (fun _ _ _ _ _ => True) (fun _ U o U' => ∃ v L, o = .returned v ∧ Q_fn_1 Z ob sl va re SL RL sd ua_ na_ Oa_ hb_ ub_ nb_ Ob_ wb_ nm st_ sv_ c0 cs fm h0 n0 v U'.heap L ∧ FrameEnd U o U' L (Room.mk 9 0 0 134).cells (Room.mk 9 0 0 134).slots) := by
  refine MetFree.of_bodySF (plainFor_of_name pn_com_example_arbiter_arbiter_OrdinalTable) hisR ?_
  intro p e s m args below meth c s₁ Bd hml0 hP hK
  obtain ⟨rfl, hZ, hh⟩ := hP
  have hx := Bd.exec
  have hby := Bd.bytes
  have hml : c.maxLocals = 2 := hml0
  have hown : s.vm.findClass "com/example/arbiter/arbiter/OrdinalTable" = some m.cls := findClass_of_methodNamed Bd.named
  have hnm := (name_of_methodNamed Bd.named Bd.method).1
  have X0 : Stand p l e (Room.mk 9 0 0 134) s m #[(.ref ob), (.ref nm)] below meth c s₁ [] 0 0 := Stand.of_body Bd
  have e0 : s₁.heap = h0 := by rw [← hh, Bd.state]; rfl
  have N0 := Fr.nil n0
  have pre0 : ∀ t, Steps p.tables e below (s₁.setTop (mkF m 0 #[rv ob, rv nm] [])) t → Steps p.tables e below (s₁.setTop (entryFrame m #[(.ref ob), (.ref nm)] 2)) t := fun t k => castTop (ef_fn_1 m ob nm) k
  have wo35 := hw _ (own_m 35 rfl)
  have wo122 := hw _ (own_m 122 rfl)
  have wo123 := hw _ (own_m 123 rfl)
  have wo145 := hw _ (own_m 145 rfl)
  have wo146 := hw _ (own_m 146 rfl)
  have wo147 := hw _ (own_m 147 rfl)
  have wo148 := hw _ (own_m 148 rfl)
  have wo149 := hw _ (own_m 149 rfl)
  have wo204 := hw _ (own_m 204 rfl)
  have wo205 := hw _ (own_m 205 rfl)
  have wo206 := hw _ (own_m 206 rfl)
  have wo207 := hw _ (own_m 207 rfl)
  obtain ⟨cq1, kq1, q1a, q1b, q1c⟩ := isOf hZ e0 pf_E_nm
  obtain ⟨_, _, ⟨T1, L1, k1, n1⟩, -, X1, ⟨Lc1, hQ1, l1, y1, z1⟩, st1⟩ := X0.virtualBack hx (y := MN29) (z := MN29) hown (mvT hZ wo145) (mvT hZ wo146) (notFace_of_selects (args := #[]) (mvT hZ wo148)) (mvT hZ wo148) (mvT hZ wo147) (by decide) (backOf (W := 1) (ts l Z a0 hw [] nm st_ h0 n0 Z0 pf_F_nm_text) hZ wo149 wo35 (by decide) (by decide)) q1a q1c (g := (mkF m 2 #[rv ob, rv nm] [(.ref nm), (.ref ob)])) rfl (by rw [hml]; rfl) (Steps.refl _) (argsL := []) (rest := [(.ref ob)]) (lenOf pd_2 rfl) rfl (by show 2 * 0 + _ ≤ _; exact Nat.le_of_eq rfl) (hb hby d40_2) (fun _ _ => ⟨rfl, e0, (by decide : 0 + 0 ≤ _), (by decide : 0 + 0 ≤ _)⟩)
  dsimp only [Pt.U, Pt.locs, Pt.cells, Pt.slots] at X1 l1 y1 z1 st1 hQ1
  rw [l1, y1, z1] at X1
  obtain ⟨rfl, N1q, K1q⟩ := hQ1
  have N2 := Fr.app N0 N1q
  obtain ⟨cq3, q3, q3'⟩ := pf_E_ob.cell
  obtain ⟨_, _, ⟨T3, L3, k3, n3⟩, -, X3, ⟨Lc3, hQ3, l3, y3, z3⟩, st3⟩ := X1.privateBack hx (y := MN41) hown (mvT hZ wo204) (mvT hZ wo205) (own_sel (Cond.privateMethod_at (mvP hZ wo206 (args := #[]))) (mvT hZ wo205) (mvT hZ wo122 (args := #[])) (by decide)) (Cond.privateMethod_at (mvP hZ wo206 (args := #[]))) (mvT hZ wo207) (by decide) (backOf (W := 0) (fs_1 l Z a0 hw [] ob sl va re SL RL sd ua_ na_ Oa_ hb_ ub_ nb_ Ob_ wb_ st_ sv_ c0 cs fm h0 n0 Z0 pf_O pS_COMPAC hcs pS_SIOOBE rfm pf_E_st_ pf_F_st__value pf_F_st__coder pf_A_sv_ hrA pf_E_ob pf_F_ob_slots pf_F_ob_values pf_F_ob_records pf_A_sl pf_L_va pf_A_re pf_F_ob_seed hT hu1 hn1) hZ wo207 wo123 (by decide) (by decide)) (g := (mkF m 6 #[rv ob, rv nm] [.null, (.ref st_), (.ref ob)])) rfl (by rw [hml]; rfl) (Steps.refl _) (a := ob) (by rw [K1q]; exact q3) q3' (argsL := [(.ref st_), .null]) (rest := []) (lenOf pd_29 rfl) rfl (by show 2 * 0 + _ ≤ _; exact Nat.le_of_eq rfl) (hb hby d40_6) (fun _ _ => ⟨rfl, K1q, (by decide : 0 + 0 ≤ _), (by decide : 0 + 0 ≤ _)⟩)
  dsimp only [Pt.U, Pt.locs, Pt.cells, Pt.slots] at X3 l3 y3 z3 st3 hQ3
  rw [l3, y3, z3] at X3
  obtain ⟨rfl, N3q, K3q⟩ := hQ3
  have N4 := Fr.app N2 N3q
  obtain ⟨fs, hr, hrun, hended, hW, hsame⟩ := X3.leave (v := some (.int ((own_hash sd (1 : Int32) c0) &&& 7))) (fun h => by rw [Bd.returns] at h; cases h)
  refine ⟨_, _, pre0 _ ?_, hrun, hended, _, _, rfl, ?_, ⟨_, rfl⟩, hW, hsame.mono (by decide) (by decide)⟩
  · show Steps _ _ _ (State.setTop _ (mkF m 0 #[rv ob, rv nm] [])) _
    refine XS.aloadN X0.here hx rfl (hb hby d40_0) rfl rfl ?_
    show Steps _ _ _ (State.setTop _ (mkF m 1 #[rv ob, rv nm] [(.ref ob)])) _
    refine XS.aloadN X0.here hx rfl (hb hby d40_1) rfl rfl ?_
    refine st1.trans ?_
    refine XS.aconstNull X1.here hx rfl (hb hby d40_5) ?_
    refine st3.trans ?_
    show Steps _ _ _ (State.setTop _ (mkF m 9 #[rv ob, rv nm] [(.int ((own_hash sd (1 : Int32) c0) &&& 7))])) _
    exact retI X3 hx Bd.returns (hb hby d40_9) hr
  · show Q_fn_1 Z _ _ _ _ _ _ _ _ _ _ _ _ _ _ _ _ _ _ _ _ _ h0 n0 _ T3.heap _
    rw [K3q]
    exact ⟨rfl, N4, rfl⟩
theorem ef_fn_2 (m : MethodId) (x0 x1 : Addr) : entryFrame m #[(.ref x0), (.ref x1)] 2 = mkF m 0 #[rv x0, rv x1] [] := by first | (simp [entryFrame, mkF, argsToLocals, Value.category]; done) | rfl
def Q_fn_2 (Z : State) (ob sl va re : Addr) (SL RL : List Int32) (sd ha_ ua_ na_ : Int32) (Oa_ : List Int32) (wa_ ub_ nb_ : Int32) (Ob_ : List Int32) (nm st_ sv_ : Addr) (c0 c1 cs : Int32) (fm : Value) (h0 : Heap) (n0 : Nat) (v : Option Value) (h : Heap) (L : List Loc) : Prop := v = some (.int (own_sl2 (own_hash sd (2 : Int32) (c0 ||| (c1 <<< ((16 : Int32) &&& 31)))) (ha_ &&& 7))) ∧ Fr n0 L ∧ h = h0
set_option maxRecDepth 65536 in
set_option maxHeartbeats 40000000 in
theorem fn_2 (l : Launch) (Z : State) (a0 : Array Value) (hw : ∀ d ∈ tables_1, d.before a0 Z = true) (ws : List Jvm.Cond) (ob sl va re : Addr) (SL RL : List Int32) (sd ha_ ua_ na_ : Int32) (Oa_ : List Int32) (wa_ ub_ nb_ : Int32) (Ob_ : List Int32) (nm st_ sv_ : Addr) (c0 c1 cs : Int32) (fm : Value) (h0 : Heap) (n0 : Nat) (Z0 : n0 ≤ h0.size) (pf_O : Old Z n0 h0) (pS_COMPAC : Sta Z Z.heap "java/lang/String" "COMPACT_STRINGS" "Z" (.int cs)) (hcs : ¬ (cs = 0)) (pS_SIOOBE : Sta Z Z.heap "jdk/internal/util/Preconditions" "SIOOBE_FORMATTER" "Ljava/util/function/BiFunction;" fm) (rfm : fm.isRef = true) (pf_E_st_ : Exa Z h0 st_ "java/lang/String") (pf_F_st__value : Fld Z h0 st_ "java/lang/String" "value" "[B" (.ref sv_)) (pf_F_st__coder : Fld Z h0 st_ "java/lang/String" "coder" "B" (.int 0)) (pf_A_sv_ : Av Z h0 sv_ .byte (2 : Int32) (own_vs [c0, c1]) (.int 0)) (hrA : ∀ c ∈ ([c0, c1] : List Int32), ¬ c < 0 ∧ ¬ (255 : Int32) < c) (pf_E_ob : Exa Z h0 ob "com/example/arbiter/arbiter/OrdinalTable") (pf_F_ob_slots : Fld Z h0 ob "com/example/arbiter/arbiter/OrdinalTable" "slots" "[I" (.ref sl)) (pf_F_ob_values : Fld Z h0 ob "com/example/arbiter/arbiter/OrdinalTable" "values" "[Ljava/lang/Object;" (.ref va)) (pf_F_ob_records : Fld Z h0 ob "com/example/arbiter/arbiter/OrdinalTable" "records" "[I" (.ref re)) (pf_A_sl : Av Z h0 sl .int 16 (own_cv SL) (.int 0)) (pf_L_va : Al Z h0 va (.object "java/lang/Object") (8 : Int32)) (pf_A_re : Av Z h0 re .int 64 (own_cv RL) (.int 0)) (pf_F_ob_seed : Fld Z h0 ob "com/example/arbiter/arbiter/OrdinalTable" "seed" "I" (.int sd)) (hT : own_T2 SL RL ha_ ua_ na_ Oa_ wa_ (own_hash sd (2 : Int32) (c0 ||| (c1 <<< ((16 : Int32) &&& 31)))) ub_ nb_ Ob_ (c0 ||| (c1 <<< ((16 : Int32) &&& 31)))) (hu1 : 0 < ua_.toInt ∧ ua_.toInt < 20) (hn1 : 0 < na_.toInt ∧ na_.toInt < 5) (hu2 : 0 < ub_.toInt ∧ ub_.toInt < 20) (hn2 : 0 < nb_.toInt ∧ nb_.toInt < 5) (pf_E_nm : Exa Z h0 nm "com/example/arbiter/arbiter/Name") (pf_F_nm_text : Fld Z h0 nm "com/example/arbiter/arbiter/Name" "text" "Ljava/lang/String;" (.ref st_)) :
    MetFree l MN40 (head1 (Jvm.Cond.code MN40 prog_25_method_5_code 2 (some .int) :: ws) (Room.mk 9 0 0 135)) (fun a U => a = #[(.ref ob), (.ref nm)] ∧ Z.Warmed39 U.vm ∧ U.heap = h0) (fun _ _ _ _ _ => True) (fun _ U o U' => ∃ v L, o = .returned v ∧ Q_fn_2 Z ob sl va re SL RL sd ha_ ua_ na_ Oa_ wa_ ub_ nb_ Ob_ nm st_ sv_ c0 c1 cs fm h0 n0 v U'.heap L ∧ FrameEnd U o U' L (Room.mk 9 0 0 135).cells (Room.mk 9 0 0 135).slots) := by
  refine MetFree.of_bodySF (plainFor_of_name pn_com_example_arbiter_arbiter_OrdinalTable) hisR ?_
  intro p e s m args below meth c s₁ Bd hml0 hP hK
  obtain ⟨rfl, hZ, hh⟩ := hP
  have hx := Bd.exec
  have hby := Bd.bytes
  have hml : c.maxLocals = 2 := hml0
  have hown : s.vm.findClass "com/example/arbiter/arbiter/OrdinalTable" = some m.cls := findClass_of_methodNamed Bd.named
  have hnm := (name_of_methodNamed Bd.named Bd.method).1
  have X0 : Stand p l e (Room.mk 9 0 0 135) s m #[(.ref ob), (.ref nm)] below meth c s₁ [] 0 0 := Stand.of_body Bd
  have e0 : s₁.heap = h0 := by rw [← hh, Bd.state]; rfl
  have N0 := Fr.nil n0
  have pre0 : ∀ t, Steps p.tables e below (s₁.setTop (mkF m 0 #[rv ob, rv nm] [])) t → Steps p.tables e below (s₁.setTop (entryFrame m #[(.ref ob), (.ref nm)] 2)) t := fun t k => castTop (ef_fn_2 m ob nm) k
  have wo35 := hw _ (own_m 35 rfl)
  have wo122 := hw _ (own_m 122 rfl)
  have wo123 := hw _ (own_m 123 rfl)
  have wo145 := hw _ (own_m 145 rfl)
  have wo146 := hw _ (own_m 146 rfl)
  have wo147 := hw _ (own_m 147 rfl)
  have wo148 := hw _ (own_m 148 rfl)
  have wo149 := hw _ (own_m 149 rfl)
  have wo204 := hw _ (own_m 204 rfl)
  have wo205 := hw _ (own_m 205 rfl)
  have wo206 := hw _ (own_m 206 rfl)
  have wo207 := hw _ (own_m 207 rfl)
  obtain ⟨cq1, kq1, q1a, q1b, q1c⟩ := isOf hZ e0 pf_E_nm
  obtain ⟨_, _, ⟨T1, L1, k1, n1⟩, -, X1, ⟨Lc1, hQ1, l1, y1, z1⟩, st1⟩ := X0.virtualBack hx (y := MN29) (z := MN29) hown (mvT hZ wo145) (mvT hZ wo146) (notFace_of_selects (args := #[]) (mvT hZ wo148)) (mvT hZ wo148) (mvT hZ wo147) (by decide) (backOf (W := 1) (ts l Z a0 hw [] nm st_ h0 n0 Z0 pf_F_nm_text) hZ wo149 wo35 (by decide) (by decide)) q1a q1c (g := (mkF m 2 #[rv ob, rv nm] [(.ref nm), (.ref ob)])) rfl (by rw [hml]; rfl) (Steps.refl _) (argsL := []) (rest := [(.ref ob)]) (lenOf pd_2 rfl) rfl (by show 2 * 0 + _ ≤ _; exact Nat.le_of_eq rfl) (hb hby d40_2) (fun _ _ => ⟨rfl, e0, (by decide : 0 + 0 ≤ _), (by decide : 0 + 0 ≤ _)⟩)
  dsimp only [Pt.U, Pt.locs, Pt.cells, Pt.slots] at X1 l1 y1 z1 st1 hQ1
  rw [l1, y1, z1] at X1
  obtain ⟨rfl, N1q, K1q⟩ := hQ1
  have N2 := Fr.app N0 N1q
  obtain ⟨cq3, q3, q3'⟩ := pf_E_ob.cell
  obtain ⟨_, _, ⟨T3, L3, k3, n3⟩, -, X3, ⟨Lc3, hQ3, l3, y3, z3⟩, st3⟩ := X1.privateBack hx (y := MN41) hown (mvT hZ wo204) (mvT hZ wo205) (own_sel (Cond.privateMethod_at (mvP hZ wo206 (args := #[]))) (mvT hZ wo205) (mvT hZ wo122 (args := #[])) (by decide)) (Cond.privateMethod_at (mvP hZ wo206 (args := #[]))) (mvT hZ wo207) (by decide) (backOf (W := 0) (fs_2 l Z a0 hw [] ob sl va re SL RL sd ha_ ua_ na_ Oa_ wa_ ub_ nb_ Ob_ st_ sv_ c0 c1 cs fm h0 n0 Z0 pf_O pS_COMPAC hcs pS_SIOOBE rfm pf_E_st_ pf_F_st__value pf_F_st__coder pf_A_sv_ hrA pf_E_ob pf_F_ob_slots pf_F_ob_values pf_F_ob_records pf_A_sl pf_L_va pf_A_re pf_F_ob_seed hT hu1 hn1 hu2 hn2) hZ wo207 wo123 (by decide) (by decide)) (g := (mkF m 6 #[rv ob, rv nm] [.null, (.ref st_), (.ref ob)])) rfl (by rw [hml]; rfl) (Steps.refl _) (a := ob) (by rw [K1q]; exact q3) q3' (argsL := [(.ref st_), .null]) (rest := []) (lenOf pd_29 rfl) rfl (by show 2 * 0 + _ ≤ _; exact Nat.le_of_eq rfl) (hb hby d40_6) (fun _ _ => ⟨rfl, K1q, (by decide : 0 + 0 ≤ _), (by decide : 0 + 0 ≤ _)⟩)
  dsimp only [Pt.U, Pt.locs, Pt.cells, Pt.slots] at X3 l3 y3 z3 st3 hQ3
  rw [l3, y3, z3] at X3
  obtain ⟨rfl, N3q, K3q⟩ := hQ3
  have N4 := Fr.app N2 N3q
  obtain ⟨fs, hr, hrun, hended, hW, hsame⟩ := X3.leave (v := some (.int (own_sl2 (own_hash sd (2 : Int32) (c0 ||| (c1 <<< ((16 : Int32) &&& 31)))) (ha_ &&& 7)))) (fun h => by rw [Bd.returns] at h; cases h)
  refine ⟨_, _, pre0 _ ?_, hrun, hended, _, _, rfl, ?_, ⟨_, rfl⟩, hW, hsame.mono (by decide) (by decide)⟩
  · show Steps _ _ _ (State.setTop _ (mkF m 0 #[rv ob, rv nm] [])) _
    refine XS.aloadN X0.here hx rfl (hb hby d40_0) rfl rfl ?_
    show Steps _ _ _ (State.setTop _ (mkF m 1 #[rv ob, rv nm] [(.ref ob)])) _
    refine XS.aloadN X0.here hx rfl (hb hby d40_1) rfl rfl ?_
    refine st1.trans ?_
    refine XS.aconstNull X1.here hx rfl (hb hby d40_5) ?_
    refine st3.trans ?_
    show Steps _ _ _ (State.setTop _ (mkF m 9 #[rv ob, rv nm] [(.int (own_sl2 (own_hash sd (2 : Int32) (c0 ||| (c1 <<< ((16 : Int32) &&& 31)))) (ha_ &&& 7)))])) _
    exact retI X3 hx Bd.returns (hb hby d40_9) hr
  · show Q_fn_2 Z _ _ _ _ _ _ _ _ _ _ _ _ _ _ _ _ _ _ _ _ _ _ h0 n0 _ T3.heap _
    rw [K3q]
    exact ⟨rfl, N4, rfl⟩
theorem d45_0 : decode prog_25_method_9_code 0 = .ok (.aload_n 0, 1) := by decide +kernel
theorem d45_1 : decode prog_25_method_9_code 1 = .ok (.getfield 30, 3) := by decide +kernel
theorem d45_4 : decode prog_25_method_9_code 4 = .ok (.aload_n 0, 1) := by decide +kernel
theorem d45_5 : decode prog_25_method_9_code 5 = .ok (.getfield 22, 3) := by decide +kernel
theorem d45_8 : decode prog_25_method_9_code 8 = .ok (.iconst 2, 1) := by decide +kernel
theorem d45_9 : decode prog_25_method_9_code 9 = .ok (.iload_n 1, 1) := by decide +kernel
theorem d45_10 : decode prog_25_method_9_code 10 = .ok (.imul, 1) := by decide +kernel
theorem d45_11 : decode prog_25_method_9_code 11 = .ok (.iconst 1, 1) := by decide +kernel
theorem d45_12 : decode prog_25_method_9_code 12 = .ok (.iadd, 1) := by decide +kernel
theorem d45_13 : decode prog_25_method_9_code 13 = .ok (.iaload, 1) := by decide +kernel
theorem d45_14 : decode prog_25_method_9_code 14 = .ok (.iconst 1, 1) := by decide +kernel
theorem d45_15 : decode prog_25_method_9_code 15 = .ok (.iadd, 1) := by decide +kernel
theorem d45_16 : decode prog_25_method_9_code 16 = .ok (.iload_n 2, 1) := by decide +kernel
theorem d45_17 : decode prog_25_method_9_code 17 = .ok (.iadd, 1) := by decide +kernel
theorem d45_18 : decode prog_25_method_9_code 18 = .ok (.iaload, 1) := by decide +kernel
theorem d45_19 : decode prog_25_method_9_code 19 = .ok (.ireturn, 1) := by decide +kernel
theorem ef_or_ (m : MethodId) (x0 : Addr) (x1 x2 : Int32) : entryFrame m #[(.ref x0), (.int x1), (.int x2)] 3 = mkF m 0 #[rv x0, iv x1, iv x2] [] := by first | (simp [entryFrame, mkF, argsToLocals, Value.category]; done) | rfl
def Q_or_ (Z : State) (ob sl va re : Addr) (SL RL : List Int32) (s_ i_ r_ n_ : Int32) (OL : List Int32) (t_ wd_ : Int32) (h0 : Heap) (n0 : Nat) (v : Option Value) (h : Heap) (L : List Loc) : Prop := v = some (.int (own_g OL i_)) ∧ Fr n0 L ∧ h = h0
set_option maxRecDepth 65536 in
set_option maxHeartbeats 40000000 in
theorem or_ (l : Launch) (Z : State) (a0 : Array Value) (hw : ∀ d ∈ tables_1, d.before a0 Z = true) (ws : List Jvm.Cond) (ob sl va re : Addr) (SL RL : List Int32) (s_ i_ r_ n_ : Int32) (OL : List Int32) (t_ wd_ : Int32) (h0 : Heap) (n0 : Nat) (Z0 : n0 ≤ h0.size) (pf_E_ob : Exa Z h0 ob "com/example/arbiter/arbiter/OrdinalTable") (pf_F_ob_slots : Fld Z h0 ob "com/example/arbiter/arbiter/OrdinalTable" "slots" "[I" (.ref sl)) (pf_F_ob_values : Fld Z h0 ob "com/example/arbiter/arbiter/OrdinalTable" "values" "[Ljava/lang/Object;" (.ref va)) (pf_F_ob_records : Fld Z h0 ob "com/example/arbiter/arbiter/OrdinalTable" "records" "[I" (.ref re)) (pf_A_sl : Av Z h0 sl .int 16 (own_cv SL) (.int 0)) (pf_L_va : Al Z h0 va (.object "java/lang/Object") (8 : Int32)) (pf_A_re : Av Z h0 re .int 64 (own_cv RL) (.int 0)) (hS : 0 ≤ s_.toInt ∧ s_.toInt < 8) (hg : (own_g SL (((2 : Int32) * s_) + 1)) = r_) (hR : own_R RL r_ n_ OL t_ wd_) (hr : 0 < r_.toInt ∧ r_.toInt < 20) (hn : 0 < n_.toInt ∧ n_.toInt < 5) (hi : 0 ≤ i_.toInt ∧ i_.toInt < n_.toInt) :
    MetFree l MN45 (head1 (Jvm.Cond.code MN45 prog_25_method_9_code 3 (some .int) :: ws) (Room.mk 0 0 0 0)) (fun a U => a = #[(.ref ob), (.int s_), (.int i_)] ∧ Z.Warmed39 U.vm ∧ U.heap = h0) (fun _ _ _ _ _ => True) (fun _ U o U' => ∃ v L, o = .returned v ∧ Q_or_ Z ob sl va re SL RL s_ i_ r_ n_ OL t_ wd_ h0 n0 v U'.heap L ∧ FrameEnd U o U' L (Room.mk 0 0 0 0).cells (Room.mk 0 0 0 0).slots) := by
  refine MetFree.of_bodySF (plainFor_of_name pn_com_example_arbiter_arbiter_OrdinalTable) hisR ?_
  intro p e s m args below meth c s₁ Bd hml0 hP hK
  obtain ⟨rfl, hZ, hh⟩ := hP
  have hx := Bd.exec
  have hby := Bd.bytes
  have hml : c.maxLocals = 3 := hml0
  have hown : s.vm.findClass "com/example/arbiter/arbiter/OrdinalTable" = some m.cls := findClass_of_methodNamed Bd.named
  have hnm := (name_of_methodNamed Bd.named Bd.method).1
  have X0 : Stand p l e (Room.mk 0 0 0 0) s m #[(.ref ob), (.int s_), (.int i_)] below meth c s₁ [] 0 0 := Stand.of_body Bd
  have e0 : s₁.heap = h0 := by rw [← hh, Bd.state]; rfl
  have N0 := Fr.nil n0
  have pre0 : ∀ t, Steps p.tables e below (s₁.setTop (mkF m 0 #[rv ob, iv s_, iv i_] [])) t → Steps p.tables e below (s₁.setTop (entryFrame m #[(.ref ob), (.int s_), (.int i_)] 3)) t := fun t k => castTop (ef_or_ m ob s_ i_) k
  have wo128 := hw _ (own_m 128 rfl)
  have wo134 := hw _ (own_m 134 rfl)
  obtain ⟨T1, X1, e1, st1⟩ := getF X0 hx hZ hown (host := "") (Or.inl wo134) Via.refl e0 pf_F_ob_records (g := (mkF m 1 #[rv ob, iv s_, iv i_] [(.ref ob)])) rfl rfl (hb hby d45_1)
  obtain ⟨T2, X2, e2, st2⟩ := getF X1 hx hZ hown (host := "") (Or.inl wo128) Via.refl e1 pf_F_ob_slots (g := (mkF m 5 #[rv ob, iv s_, iv i_] [(.ref ob), (.ref re)])) rfl rfl (hb hby d45_5)
  obtain ⟨kk3, cl3, Ar3, qq3, Sz3, Nn3, Hs3, Gf3⟩ := id pf_A_sl
  have hin4 : ¬ ((((2 : Int32) * s_) + 1) < 0 ∨ cl3.slots.size ≤ ((((2 : Int32) * s_) + 1)).toNatClampNeg) := inb_of Sz3 (own_i1 hS)
  have hat5 : cl3.slots[((((2 : Int32) * s_) + 1)).toNatClampNeg]? = some (.int (own_g SL (((2 : Int32) * s_) + 1))) := Has.at Hs3 hin4 (own_cvg _ _)
  have q6 : (own_g SL (((2 : Int32) * s_) + 1)) = r_ := hg
  obtain ⟨kk7, cl7, Ar7, qq7, Sz7, Nn7, Hs7, Gf7⟩ := id pf_A_re
  have hin8 : ¬ (((r_ + 1) + i_) < 0 ∨ cl7.slots.size ≤ (((r_ + 1) + i_)).toNatClampNeg) := inb_of Sz7 (own_ixi hr hn hi)
  have hat9 : cl7.slots[(((r_ + 1) + i_)).toNatClampNeg]? = some (.int (own_g RL ((r_ + 1) + i_))) := Has.at Hs7 hin8 (own_cvg _ _)
  obtain ⟨fs, hr, hrun, hended, hW, hsame⟩ := X2.leave (v := some (.int (own_g RL ((r_ + 1) + i_)))) (fun h => by rw [Bd.returns] at h; cases h)
  refine ⟨_, _, pre0 _ ?_, hrun, hended, _, _, rfl, ?_, ⟨_, rfl⟩, hW, hsame.mono (by decide) (by decide)⟩
  · show Steps _ _ _ (State.setTop _ (mkF m 0 #[rv ob, iv s_, iv i_] [])) _
    refine XS.aloadN X0.here hx rfl (hb hby d45_0) rfl rfl ?_
    show Steps _ _ _ (State.setTop _ (mkF m 1 #[rv ob, iv s_, iv i_] [(.ref ob)])) _
    refine st1 _ ?_
    refine XS.aloadN X1.here hx rfl (hb hby d45_4) rfl rfl ?_
    refine st2 _ ?_
    refine XS.iconst X2.here hx rfl (hb hby d45_8) ?_
    refine XS.iloadN X2.here hx rfl (hb hby d45_9) rfl ?_
    refine XS.imul X2.here hx rfl (hb hby d45_10) rfl ?_
    refine XS.iconst X2.here hx rfl (hb hby d45_11) ?_
    refine XS.iadd X2.here hx rfl (hb hby d45_12) rfl ?_
    refine X2.iaload hx (j := (((2 : Int32) * s_) + 1)) (v := (.int (own_g SL (((2 : Int32) * s_) + 1)))) (by rw [e2]; exact Ar3.1) (State.isArrayOf_alike hZ.alike Ar3.2.1) Ar3.2.2 hin4 hat5 (g := (mkF m 13 #[rv ob, iv s_, iv i_] [(.int (((2 : Int32) * s_) + 1)), (.ref sl), (.ref re)])) rfl rfl (hb hby d45_13) _ ?_
    show Steps _ _ _ (State.setTop _ (mkF m 14 #[rv ob, iv s_, iv i_] [(.int (own_g SL (((2 : Int32) * s_) + 1))), (.ref re)])) _
    rw [q6]
    show Steps _ _ _ (State.setTop _ (mkF m 14 #[rv ob, iv s_, iv i_] [(.int r_), (.ref re)])) _
    show Steps _ _ _ (State.setTop _ (mkF m 14 #[rv ob, iv s_, iv i_] [(.int r_), (.ref re)])) _
    refine XS.iconst X2.here hx rfl (hb hby d45_14) ?_
    refine XS.iadd X2.here hx rfl (hb hby d45_15) rfl ?_
    refine XS.iloadN X2.here hx rfl (hb hby d45_16) rfl ?_
    refine XS.iadd X2.here hx rfl (hb hby d45_17) rfl ?_
    refine X2.iaload hx (j := ((r_ + 1) + i_)) (v := (.int (own_g RL ((r_ + 1) + i_)))) (by rw [e2]; exact Ar7.1) (State.isArrayOf_alike hZ.alike Ar7.2.1) Ar7.2.2 hin8 hat9 (g := (mkF m 18 #[rv ob, iv s_, iv i_] [(.int ((r_ + 1) + i_)), (.ref re)])) rfl rfl (hb hby d45_18) _ ?_
    show Steps _ _ _ (State.setTop _ (mkF m 19 #[rv ob, iv s_, iv i_] [(.int (own_g RL ((r_ + 1) + i_)))])) _
    exact retI X2 hx Bd.returns (hb hby d45_19) hr
  · show Q_or_ Z _ _ _ _ _ _ _ _ _ _ _ _ _ h0 n0 _ T2.heap _
    rw [e2]
    exact ⟨(by rw [hR.2.1 i_ hi.1 hi.2]), N0, rfl⟩
theorem d27_0 : decode prog_25_method_2_code 0 = .ok (.aload_n 0, 1) := by decide +kernel
theorem d27_1 : decode prog_25_method_2_code 1 = .ok (.invokespecial 17, 3) := by decide +kernel
theorem d27_4 : decode prog_25_method_2_code 4 = .ok (.aload_n 0, 1) := by decide +kernel
theorem d27_5 : decode prog_25_method_2_code 5 = .ok (.bipush 16, 2) := by decide +kernel
theorem d27_7 : decode prog_25_method_2_code 7 = .ok (.newarray .int, 2) := by decide +kernel
theorem d27_9 : decode prog_25_method_2_code 9 = .ok (.putfield 22, 3) := by decide +kernel
theorem d27_12 : decode prog_25_method_2_code 12 = .ok (.aload_n 0, 1) := by decide +kernel
theorem d27_13 : decode prog_25_method_2_code 13 = .ok (.bipush 8, 2) := by decide +kernel
theorem d27_15 : decode prog_25_method_2_code 15 = .ok (.anewarray 18, 3) := by decide +kernel
theorem d27_18 : decode prog_25_method_2_code 18 = .ok (.putfield 26, 3) := by decide +kernel
theorem d27_21 : decode prog_25_method_2_code 21 = .ok (.aload_n 0, 1) := by decide +kernel
theorem d27_22 : decode prog_25_method_2_code 22 = .ok (.bipush 64, 2) := by decide +kernel
theorem d27_24 : decode prog_25_method_2_code 24 = .ok (.newarray .int, 2) := by decide +kernel
theorem d27_26 : decode prog_25_method_2_code 26 = .ok (.putfield 30, 3) := by decide +kernel
theorem d27_29 : decode prog_25_method_2_code 29 = .ok (.aload_n 0, 1) := by decide +kernel
theorem d27_30 : decode prog_25_method_2_code 30 = .ok (.iconst 1, 1) := by decide +kernel
theorem d27_31 : decode prog_25_method_2_code 31 = .ok (.putfield 33, 3) := by decide +kernel
theorem d27_34 : decode prog_25_method_2_code 34 = .ok (.aload_n 0, 1) := by decide +kernel
theorem d27_35 : decode prog_25_method_2_code 35 = .ok (.iload_n 1, 1) := by decide +kernel
theorem d27_36 : decode prog_25_method_2_code 36 = .ok (.putfield 37, 3) := by decide +kernel
theorem d27_39 : decode prog_25_method_2_code 39 = .ok (.return_, 1) := by decide +kernel
theorem ef_rm27 (m : MethodId) (x0 : Addr) (x1 : Int32) : entryFrame m #[(.ref x0), (.int x1)] 2 = mkF m 0 #[rv x0, iv x1] [] := by first | (simp [entryFrame, mkF, argsToLocals, Value.category]; done) | rfl
def Q_rm27 (Z : State) (a27_0 : Addr) (sd : Int32) (h0 : Heap) (n0 : Nat) (v : Option Value) (h : Heap) (L : List Loc) : Prop := ∃ (sl va : Addr) (re : Addr), v = none ∧ Fr n0 L ∧ Keep h0 h [a27_0] ∧ (h0.size ≤ sl) ∧ (h0.size ≤ va) ∧ (h0.size ≤ re) ∧ (sl ≠ va) ∧ (sl ≠ re) ∧ (va ≠ re) ∧ (Fld Z h a27_0 "com/example/arbiter/arbiter/OrdinalTable" "slots" "[I" (.ref sl)) ∧ (Fld Z h a27_0 "com/example/arbiter/arbiter/OrdinalTable" "values" "[Ljava/lang/Object;" (.ref va)) ∧ (Fld Z h a27_0 "com/example/arbiter/arbiter/OrdinalTable" "records" "[I" (.ref re)) ∧ (Av Z h sl .int 16 (own_cv (List.replicate 16 (0 : Int32))) (.int 0)) ∧ (Al Z h va (.object "java/lang/Object") (8 : Int32)) ∧ (Av Z h re .int 64 (own_cv (List.replicate 64 (0 : Int32))) (.int 0)) ∧ (Fld Z h a27_0 "com/example/arbiter/arbiter/OrdinalTable" "seed" "I" (.int sd)) ∧ (Fld Z h a27_0 "com/example/arbiter/arbiter/OrdinalTable" "used" "I" (.int 1)) ∧ (Fld Z h a27_0 "com/example/arbiter/arbiter/OrdinalTable" "unused" "I" (.int 0)) ∧ (Fld Z h a27_0 "com/example/arbiter/arbiter/OrdinalTable" "size" "I" (.int 0))
set_option maxRecDepth 65536 in
set_option maxHeartbeats 40000000 in
theorem rm27 (l : Launch) (Z : State) (a0 : Array Value) (hw : ∀ d ∈ tables_1, d.before a0 Z = true) (ws : List Jvm.Cond) (a27_0 : Addr) (sd : Int32) (h0 : Heap) (n0 : Nat) (Z0 : n0 ≤ h0.size) (pf_E_a27_0 : Exa Z h0 a27_0 "com/example/arbiter/arbiter/OrdinalTable") (pf_G_a27_0 : n0 ≤ a27_0) (pf_F_a27_0_seed : Fld Z h0 a27_0 "com/example/arbiter/arbiter/OrdinalTable" "seed" "I" (.int 0)) (pf_F_a27_0_slots : Fld Z h0 a27_0 "com/example/arbiter/arbiter/OrdinalTable" "slots" "[I" .null) (pf_F_a27_0_values : Fld Z h0 a27_0 "com/example/arbiter/arbiter/OrdinalTable" "values" "[Ljava/lang/Object;" .null) (pf_F_a27_0_records : Fld Z h0 a27_0 "com/example/arbiter/arbiter/OrdinalTable" "records" "[I" .null) (pf_F_a27_0_used : Fld Z h0 a27_0 "com/example/arbiter/arbiter/OrdinalTable" "used" "I" (.int 0)) (pf_F_a27_0_unused : Fld Z h0 a27_0 "com/example/arbiter/arbiter/OrdinalTable" "unused" "I" (.int 0)) (pf_F_a27_0_size : Fld Z h0 a27_0 "com/example/arbiter/arbiter/OrdinalTable" "size" "I" (.int 0)) :
    MetFree l MN27 (head1 (Jvm.Cond.code MN27 prog_25_method_2_code 2 none :: ws) (Room.mk 1 3 88 12)) (fun a U => a = #[(.ref a27_0), (.int sd)] ∧ Z.Warmed39 U.vm ∧ U.heap = h0) (fun _ _ _ _ _ => True) (fun _ U o U' => ∃ v L, o = .returned v ∧ Q_rm27 Z a27_0 sd h0 n0 v U'.heap L ∧ FrameEnd U o U' L (Room.mk 1 3 88 12).cells (Room.mk 1 3 88 12).slots) := by
  refine MetFree.of_bodySF (plainFor_of_name pn_com_example_arbiter_arbiter_OrdinalTable) hisR ?_
  intro p e s m args below meth c s₁ Bd hml0 hP hK
  obtain ⟨rfl, hZ, hh⟩ := hP
  have hx := Bd.exec
  have hby := Bd.bytes
  have hml : c.maxLocals = 2 := hml0
  have hown : s.vm.findClass "com/example/arbiter/arbiter/OrdinalTable" = some m.cls := findClass_of_methodNamed Bd.named
  have hnm := (name_of_methodNamed Bd.named Bd.method).1
  have X0 : Stand p l e (Room.mk 1 3 88 12) s m #[(.ref a27_0), (.int sd)] below meth c s₁ [] 0 0 := Stand.of_body Bd
  have e0 : s₁.heap = h0 := by rw [← hh, Bd.state]; rfl
  have N0 := Fr.nil n0
  have pre0 : ∀ t, Steps p.tables e below (s₁.setTop (mkF m 0 #[rv a27_0, iv sd] [])) t → Steps p.tables e below (s₁.setTop (entryFrame m #[(.ref a27_0), (.int sd)] 2)) t := fun t k => castTop (ef_rm27 m a27_0 sd) k
  have wo6 := hw _ (own_m 6 rfl)
  have wo27 := hw _ (own_m 27 rfl)
  have wo28 := hw _ (own_m 28 rfl)
  have wo122 := hw _ (own_m 122 rfl)
  have wo127 := hw _ (own_m 127 rfl)
  have wo128 := hw _ (own_m 128 rfl)
  have wo129 := hw _ (own_m 129 rfl)
  have wo130 := hw _ (own_m 130 rfl)
  have wo131 := hw _ (own_m 131 rfl)
  have wo132 := hw _ (own_m 132 rfl)
  have wo133 := hw _ (own_m 133 rfl)
  have wo134 := hw _ (own_m 134 rfl)
  have wo135 := hw _ (own_m 135 rfl)
  have wo136 := hw _ (own_m 136 rfl)
  have wo137 := hw _ (own_m 137 rfl)
  have wo138 := hw _ (own_m 138 rfl)
  have wo139 := hw _ (own_m 139 rfl)
  have wo173 := hw _ (own_m 173 rfl)
  have wo198 := hw _ (own_m 198 rfl)
  obtain ⟨T1, X1, e1, st1⟩ := initO X0 hx hZ hown wo127 wo27 wo28 e0 (g := (mkF m 1 #[rv a27_0, iv sd] [(.ref a27_0)])) rfl (by rw [hml]; rfl) rfl (hb hby d27_1) (by decide) (W := 0) (by show 2 * 0 + _ ≤ _; exact Nat.le_of_eq rfl) (by decide)
  obtain ⟨T2, h2, k2, X2, e2, E2, A2, st2⟩ := newP (aty := .int) X1 hx hZ wo6 e1 (g := (mkF m 7 #[rv a27_0, iv sd] [(.int 16), (.ref a27_0)])) rfl (hb hby d27_7) rfl (by decide) (cap := 16) (by decide) (by decide) (by decide) (by decide)
  obtain ⟨b2, gg2⟩ : ∃ z, z = h0.size := ⟨_, rfl⟩
  rw [← gg2] at A2 st2
  have ne3 : a27_0 ≠ b2 := Nat.ne_of_lt (Nat.lt_of_lt_of_le pf_E_a27_0.lt (Nat.le_of_eq gg2.symm))
  have g4 : n0 ≤ b2 := Nat.le_trans Z0 (Nat.le_of_eq gg2.symm)
  have bz5 : h0.size ≤ b2 := Nat.le_trans (Keep.refl h0 [a27_0]).1 (Nat.le_of_eq gg2.symm)
  have K7 : Keep h0 h2 [a27_0] := (Keep.refl h0 [a27_0]).ext E2
  have f6 : Av Z h2 b2 .int 16 [(.int 0), (.int 0), (.int 0), (.int 0), (.int 0), (.int 0), (.int 0), (.int 0), (.int 0), (.int 0), (.int 0), (.int 0), (.int 0), (.int 0), (.int 0), (.int 0)] (.int 0) := ⟨_, (Arv.new A2 (by decide)).pad (pad_rep [] (.int 0) 16)⟩
  have f8 := (pf_F_a27_0_slots.ext E2)
  have f9 := (pf_E_a27_0.ext E2)
  obtain ⟨T10, h10, X10, e10, W10, st10⟩ := putF X2 hx hZ hown (host := "") (Or.inl wo128) Via.refl e2 f8 f9 (Or.inl wo129) wo122 (ty := (.array .int)) (by decide) rfl rfl (g := (mkF m 9 #[rv a27_0, iv sd] [(.ref b2), (.ref a27_0)])) rfl rfl (hb hby d27_9)
  have K11 : Keep h0 h10 [a27_0] := (K7).wr W10 (Or.inl (own_m 0 rfl))
  have f12 : Fld Z h10 a27_0 "com/example/arbiter/arbiter/OrdinalTable" "slots" "[I" (.ref b2) := f8.same W10
  have N13 := Fr.snoc X10 N0 pf_G_a27_0
  obtain ⟨T14, h14, k14, X14, e14, E14, A14, O14, st14⟩ := newR X10 hx hZ hown wo130 wo131 e10 (g := (mkF m 15 #[rv a27_0, iv sd] [(.int 8), (.ref a27_0)])) rfl (hb hby d27_15) rfl (by decide) (cap := 8) (by decide) (by decide) (by decide) (by decide)
  obtain ⟨b14, gg14⟩ : ∃ z, z = h10.size := ⟨_, rfl⟩
  rw [← gg14] at A14 st14
  have f15 := (f9.wr W10)
  have ne16 : a27_0 ≠ b14 := Nat.ne_of_lt (Nat.lt_of_lt_of_le f15.lt (Nat.le_of_eq gg14.symm))
  have f17 := (f6.other W10 (Ne.symm ne3))
  have ne18 : b2 ≠ b14 := Nat.ne_of_lt (Nat.lt_of_lt_of_le f17.lt (Nat.le_of_eq gg14.symm))
  have f20 := (Nat.le_trans (Nat.le_trans Z0 E2.1) (Keep.of_wr W10).1)
  have g19 : n0 ≤ b14 := Nat.le_trans f20 (Nat.le_of_eq gg14.symm)
  have bz21 : h0.size ≤ b14 := Nat.le_trans (K11).1 (Nat.le_of_eq gg14.symm)
  have K23 : Keep h0 h14 [a27_0] := (K11).ext E14
  have f22 : Arv Z h14 b14 k14 (.object "java/lang/Object") (8 : Int32) [.null, .null, .null, .null, .null, .null, .null, .null] .null := (Arv.new A14 (by decide)).pad (pad_rep [] .null 8)
  have f24 := (((pf_F_a27_0_values.ext E2).other W10 (Or.inr (slot_ne (Or.inl wo133) (Or.inl wo129) (by decide) (t := (.array (.object "java/lang/Object"))) (t' := (.array .int)) (by decide) (by decide)))).ext E14)
  have f25 := (f15.ext E14)
  obtain ⟨T26, h26, X26, e26, W26, st26⟩ := putF X14 hx hZ hown (host := "") (Or.inl wo132) Via.refl e14 f24 f25 (Or.inl wo133) wo122 (ty := (.array (.object "java/lang/Object"))) (by decide) rfl rfl (g := (mkF m 18 #[rv a27_0, iv sd] [(.ref b14), (.ref a27_0)])) rfl rfl (hb hby d27_18)
  have K27 : Keep h0 h26 [a27_0] := (K23).wr W26 (Or.inl (own_m 0 rfl))
  have f28 : Fld Z h26 a27_0 "com/example/arbiter/arbiter/OrdinalTable" "values" "[Ljava/lang/Object;" (.ref b14) := f24.same W26
  have N29 := Fr.snoc X26 N13 pf_G_a27_0
  obtain ⟨T30, h30, k30, X30, e30, E30, A30, st30⟩ := newP (aty := .int) X26 hx hZ wo6 e26 (g := (mkF m 24 #[rv a27_0, iv sd] [(.int 64), (.ref a27_0)])) rfl (hb hby d27_24) rfl (by decide) (cap := 64) (by decide) (by decide) (by decide) (by decide)
  obtain ⟨b30, gg30⟩ : ∃ z, z = h26.size := ⟨_, rfl⟩
  rw [← gg30] at A30 st30
  have f31 := (f25.wr W26)
  have ne32 : a27_0 ≠ b30 := Nat.ne_of_lt (Nat.lt_of_lt_of_le f31.lt (Nat.le_of_eq gg30.symm))
  have f33 := ((f17.ext E14).other W26 (Ne.symm ne3))
  have ne34 : b2 ≠ b30 := Nat.ne_of_lt (Nat.lt_of_lt_of_le f33.lt (Nat.le_of_eq gg30.symm))
  have f35 := (f22.other W26 (Ne.symm ne16))
  have ne36 : b14 ≠ b30 := Nat.ne_of_lt (Nat.lt_of_lt_of_le f35.lt (Nat.le_of_eq gg30.symm))
  have f38 := (Nat.le_trans (Nat.le_trans f20 E14.1) (Keep.of_wr W26).1)
  have g37 : n0 ≤ b30 := Nat.le_trans f38 (Nat.le_of_eq gg30.symm)
  have bz39 : h0.size ≤ b30 := Nat.le_trans (K27).1 (Nat.le_of_eq gg30.symm)
  have K41 : Keep h0 h30 [a27_0] := (K27).ext E30
  have f40 : Av Z h30 b30 .int 64 [(.int 0), (.int 0), (.int 0), (.int 0), (.int 0), (.int 0), (.int 0), (.int 0), (.int 0), (.int 0), (.int 0), (.int 0), (.int 0), (.int 0), (.int 0), (.int 0), (.int 0), (.int 0), (.int 0), (.int 0), (.int 0), (.int 0), (.int 0), (.int 0), (.int 0), (.int 0), (.int 0), (.int 0), (.int 0), (.int 0), (.int 0), (.int 0), (.int 0), (.int 0), (.int 0), (.int 0), (.int 0), (.int 0), (.int 0), (.int 0), (.int 0), (.int 0), (.int 0), (.int 0), (.int 0), (.int 0), (.int 0), (.int 0), (.int 0), (.int 0), (.int 0), (.int 0), (.int 0), (.int 0), (.int 0), (.int 0), (.int 0), (.int 0), (.int 0), (.int 0), (.int 0), (.int 0), (.int 0), (.int 0)] (.int 0) := ⟨_, (Arv.new A30 (by decide)).pad (pad_rep [] (.int 0) 64)⟩
  have f42 := (((((pf_F_a27_0_records.ext E2).other W10 (Or.inr (slot_ne (Or.inl wo135) (Or.inl wo129) (by decide) (t := (.array .int)) (t' := (.array .int)) (by decide) (by decide)))).ext E14).other W26 (Or.inr (slot_ne (Or.inl wo135) (Or.inl wo133) (by decide) (t := (.array .int)) (t' := (.array (.object "java/lang/Object"))) (by decide) (by decide)))).ext E30)
  have f43 := (f31.ext E30)
  obtain ⟨T44, h44, X44, e44, W44, st44⟩ := putF X30 hx hZ hown (host := "") (Or.inl wo134) Via.refl e30 f42 f43 (Or.inl wo135) wo122 (ty := (.array .int)) (by decide) rfl rfl (g := (mkF m 26 #[rv a27_0, iv sd] [(.ref b30), (.ref a27_0)])) rfl rfl (hb hby d27_26)
  have K45 : Keep h0 h44 [a27_0] := (K41).wr W44 (Or.inl (own_m 0 rfl))
  have f46 : Fld Z h44 a27_0 "com/example/arbiter/arbiter/OrdinalTable" "records" "[I" (.ref b30) := f42.same W44
  have N47 := Fr.snoc X44 N29 pf_G_a27_0
  have f48 := ((((((pf_F_a27_0_used.ext E2).other W10 (Or.inr (slot_ne (Or.inl wo137) (Or.inl wo129) (by decide) (t := .int) (t' := (.array .int)) (by decide) (by decide)))).ext E14).other W26 (Or.inr (slot_ne (Or.inl wo137) (Or.inl wo133) (by decide) (t := .int) (t' := (.array (.object "java/lang/Object"))) (by decide) (by decide)))).ext E30).other W44 (Or.inr (slot_ne (Or.inl wo137) (Or.inl wo135) (by decide) (t := .int) (t' := (.array .int)) (by decide) (by decide))))
  have f49 := (f43.wr W44)
  obtain ⟨T50, h50, X50, e50, W50, st50⟩ := putF X44 hx hZ hown (host := "") (Or.inl wo136) Via.refl e44 f48 f49 (Or.inl wo137) wo122 (ty := .int) (by decide) rfl rfl (g := (mkF m 31 #[rv a27_0, iv sd] [(.int 1), (.ref a27_0)])) rfl rfl (hb hby d27_31)
  have K51 : Keep h0 h50 [a27_0] := (K45).wr W50 (Or.inl (own_m 0 rfl))
  have f52 : Fld Z h50 a27_0 "com/example/arbiter/arbiter/OrdinalTable" "used" "I" (.int 1) := f48.same W50
  have N53 := Fr.snoc X50 N47 pf_G_a27_0
  have f54 := (((((((pf_F_a27_0_seed.ext E2).other W10 (Or.inr (slot_ne (Or.inr wo139) (Or.inl wo129) (by decide) (t := .int) (t' := (.array .int)) (by decide) (by decide)))).ext E14).other W26 (Or.inr (slot_ne (Or.inr wo139) (Or.inl wo133) (by decide) (t := .int) (t' := (.array (.object "java/lang/Object"))) (by decide) (by decide)))).ext E30).other W44 (Or.inr (slot_ne (Or.inr wo139) (Or.inl wo135) (by decide) (t := .int) (t' := (.array .int)) (by decide) (by decide)))).other W50 (Or.inr (slot_ne (Or.inr wo139) (Or.inl wo137) (by decide) (t := .int) (t' := .int) (by decide) (by decide))))
  have f55 := (f49.wr W50)
  obtain ⟨T56, h56, X56, e56, W56, st56⟩ := putF X50 hx hZ hown (host := "") (Or.inl wo138) Via.refl e50 f54 f55 (Or.inr ⟨wo139, rfl, hnm⟩) wo122 (ty := .int) (by decide) rfl rfl (g := (mkF m 36 #[rv a27_0, iv sd] [(.int sd), (.ref a27_0)])) rfl rfl (hb hby d27_36)
  have K57 : Keep h0 h56 [a27_0] := (K51).wr W56 (Or.inl (own_m 0 rfl))
  have f58 : Fld Z h56 a27_0 "com/example/arbiter/arbiter/OrdinalTable" "seed" "I" (.int sd) := f54.same W56
  have N59 := Fr.snoc X56 N53 pf_G_a27_0
  have f60 := ((((((f12.ext E14).other W26 (Or.inr (slot_ne (Or.inl wo129) (Or.inl wo133) (by decide) (t := (.array .int)) (t' := (.array (.object "java/lang/Object"))) (by decide) (by decide)))).ext E30).other W44 (Or.inr (slot_ne (Or.inl wo129) (Or.inl wo135) (by decide) (t := (.array .int)) (t' := (.array .int)) (by decide) (by decide)))).other W50 (Or.inr (slot_ne (Or.inl wo129) (Or.inl wo137) (by decide) (t := (.array .int)) (t' := .int) (by decide) (by decide)))).other W56 (Or.inr (slot_ne (Or.inl wo129) (Or.inr wo139) (by decide) (t := (.array .int)) (t' := .int) (by decide) (by decide))))
  have f61 := ((((f28.ext E30).other W44 (Or.inr (slot_ne (Or.inl wo133) (Or.inl wo135) (by decide) (t := (.array (.object "java/lang/Object"))) (t' := (.array .int)) (by decide) (by decide)))).other W50 (Or.inr (slot_ne (Or.inl wo133) (Or.inl wo137) (by decide) (t := (.array (.object "java/lang/Object"))) (t' := .int) (by decide) (by decide)))).other W56 (Or.inr (slot_ne (Or.inl wo133) (Or.inr wo139) (by decide) (t := (.array (.object "java/lang/Object"))) (t' := .int) (by decide) (by decide))))
  have f62 := ((f46.other W50 (Or.inr (slot_ne (Or.inl wo135) (Or.inl wo137) (by decide) (t := (.array .int)) (t' := .int) (by decide) (by decide)))).other W56 (Or.inr (slot_ne (Or.inl wo135) (Or.inr wo139) (by decide) (t := (.array .int)) (t' := .int) (by decide) (by decide))))
  have f63 := ((((f33.ext E30).other W44 (Ne.symm ne3)).other W50 (Ne.symm ne3)).other W56 (Ne.symm ne3))
  have f64 := ((((f35.ext E30).other W44 (Ne.symm ne16)).other W50 (Ne.symm ne16)).other W56 (Ne.symm ne16))
  have f65 := (((f40.other W44 (Ne.symm ne32)).other W50 (Ne.symm ne32)).other W56 (Ne.symm ne32))
  have f66 := (f52.other W56 (Or.inr (slot_ne (Or.inl wo137) (Or.inr wo139) (by decide) (t := .int) (t' := .int) (by decide) (by decide))))
  have f67 := ((((((((pf_F_a27_0_unused.ext E2).other W10 (Or.inr (slot_ne (Or.inl wo198) (Or.inl wo129) (by decide) (t := .int) (t' := (.array .int)) (by decide) (by decide)))).ext E14).other W26 (Or.inr (slot_ne (Or.inl wo198) (Or.inl wo133) (by decide) (t := .int) (t' := (.array (.object "java/lang/Object"))) (by decide) (by decide)))).ext E30).other W44 (Or.inr (slot_ne (Or.inl wo198) (Or.inl wo135) (by decide) (t := .int) (t' := (.array .int)) (by decide) (by decide)))).other W50 (Or.inr (slot_ne (Or.inl wo198) (Or.inl wo137) (by decide) (t := .int) (t' := .int) (by decide) (by decide)))).other W56 (Or.inr (slot_ne (Or.inl wo198) (Or.inr wo139) (by decide) (t := .int) (t' := .int) (by decide) (by decide))))
  have f68 := ((((((((pf_F_a27_0_size.ext E2).other W10 (Or.inr (slot_ne (Or.inl wo173) (Or.inl wo129) (by decide) (t := .int) (t' := (.array .int)) (by decide) (by decide)))).ext E14).other W26 (Or.inr (slot_ne (Or.inl wo173) (Or.inl wo133) (by decide) (t := .int) (t' := (.array (.object "java/lang/Object"))) (by decide) (by decide)))).ext E30).other W44 (Or.inr (slot_ne (Or.inl wo173) (Or.inl wo135) (by decide) (t := .int) (t' := (.array .int)) (by decide) (by decide)))).other W50 (Or.inr (slot_ne (Or.inl wo173) (Or.inl wo137) (by decide) (t := .int) (t' := .int) (by decide) (by decide)))).other W56 (Or.inr (slot_ne (Or.inl wo173) (Or.inr wo139) (by decide) (t := .int) (t' := .int) (by decide) (by decide))))
  obtain ⟨fs, hr, hrun, hended, hW, hsame⟩ := X56.leave (v := none) (fun _ => rfl)
  refine ⟨_, _, pre0 _ ?_, hrun, hended, _, _, rfl, ?_, ⟨_, rfl⟩, hW, hsame.mono (by decide) (by decide)⟩
  · show Steps _ _ _ (State.setTop _ (mkF m 0 #[rv a27_0, iv sd] [])) _
    refine XS.aloadN X0.here hx rfl (hb hby d27_0) rfl rfl ?_
    show Steps _ _ _ (State.setTop _ (mkF m 1 #[rv a27_0, iv sd] [(.ref a27_0)])) _
    refine st1 _ ?_
    refine XS.aloadN X1.here hx rfl (hb hby d27_4) rfl rfl ?_
    refine XS.bipush X1.here hx rfl (hb hby d27_5) ?_
    refine st2 _ ?_
    refine st10 _ ?_
    refine XS.aloadN X10.here hx rfl (hb hby d27_12) rfl rfl ?_
    refine XS.bipush X10.here hx rfl (hb hby d27_13) ?_
    refine st14 _ ?_
    refine st26 _ ?_
    show Steps _ _ _ (State.setTop _ (mkF m 21 #[rv a27_0, iv sd] [])) _
    refine XS.aloadN X26.here hx rfl (hb hby d27_21) rfl rfl ?_
    refine XS.bipush X26.here hx rfl (hb hby d27_22) ?_
    refine st30 _ ?_
    refine st44 _ ?_
    refine XS.aloadN X44.here hx rfl (hb hby d27_29) rfl rfl ?_
    refine XS.iconst X44.here hx rfl (hb hby d27_30) ?_
    refine st50 _ ?_
    refine XS.aloadN X50.here hx rfl (hb hby d27_34) rfl rfl ?_
    refine XS.iloadN X50.here hx rfl (hb hby d27_35) rfl ?_
    show Steps _ _ _ (State.setTop _ (mkF m 36 #[rv a27_0, iv sd] [(.int sd), (.ref a27_0)])) _
    refine st56 _ ?_
    show Steps _ _ _ (State.setTop _ (mkF m 39 #[rv a27_0, iv sd] [])) _
    exact X56.returnOut hx Bd.returns (hb hby d27_39) hr
  · show Q_rm27 Z _ _ h0 n0 _ T56.heap _
    rw [e56]
    exact ⟨b2, b14, b30, rfl, N59, (K57), bz5, bz21, bz39, ne18, ne34, ne36, f60, f61, f62, f63, (Av.al ⟨_, f64⟩), f65, f58, f66, f67, f68⟩
theorem pd_15 : parseMethodDescriptor "(IIIII)[I" = some ⟨[.int, .int, .int, .int, .int], some (.array .int)⟩ := by decide +kernel
theorem pd_5 : parseMethodDescriptor "(C)Ljava/lang/String;" = some ⟨[.char], some (.object "java/lang/String")⟩ := by decide +kernel
theorem pd_26 : parseMethodDescriptor "(Ljava/lang/String;)Lcom/example/arbiter/arbiter/Name;" = some ⟨[(.object "java/lang/String")], some (.object "com/example/arbiter/arbiter/Name")⟩ := by decide +kernel
theorem pd_35 : parseMethodDescriptor "([C)V" = some ⟨[(.array .char)], none⟩ := by decide +kernel
theorem pd_10 : parseMethodDescriptor "(I)V" = some ⟨[.int], none⟩ := by decide +kernel
theorem pd_22 : parseMethodDescriptor "(Lcom/example/arbiter/arbiter/Name;Ljava/lang/Object;[I)V" = some ⟨[(.object "com/example/arbiter/arbiter/Name"), (.object "java/lang/Object"), (.array .int)], none⟩ := by decide +kernel
theorem pd_21 : parseMethodDescriptor "(Lcom/example/arbiter/arbiter/Name;)I" = some ⟨[(.object "com/example/arbiter/arbiter/Name")], some .int⟩ := by decide +kernel
theorem pd_14 : parseMethodDescriptor "(IIIII)I" = some ⟨[.int, .int, .int, .int, .int], some .int⟩ := by decide +kernel
theorem ef_rm0 (m : MethodId) (x0 x1 x2 x3 x4 x5 : Int32) : entryFrame m #[(.int x0), (.int x1), (.int x2), (.int x3), (.int x4), (.int x5)] maxLocals = mkF m 0 #[iv x0, iv x1, iv x2, iv x3, iv x4, iv x5, .unset, .unset, .unset, .unset, .unset, .unset, .unset, .unset, .unset, .unset, .unset, .unset, .unset, .unset, .unset, .unset, .unset, .unset, .unset, .unset, .unset, .unset, .unset] [] := by first | (simp [entryFrame, mkF, argsToLocals, Value.category, maxLocals]; done) | rfl
def Q_rm0 (Z : State) (p0_0 p0_1 p0_2 p0_3 p0_4 p0_5 cs : Int32) (fm : Value) (h0 : Heap) (n0 : Nat) (v : Option Value) (h : Heap) (L : List Loc) : Prop := v = some (.int 1) ∧ Fr n0 L ∧ Keep h0 h []
def own_FE (s : State) (o : Outcome) (t : State) (L : List Loc) (k n : Nat) : Prop := s.Warmed39 t.vm ∧ (∀ (j : Nat) (p : Array UInt16 × Addr), s.vm.interned.size ≤ j → t.vm.interned[j]? = some p → s.heap.size ≤ p.2 ∧ p.2 < t.heap.size) ∧ s.sameButNew { t with vm := s.vm } L k n
set_option maxRecDepth 65536 in
set_option maxHeartbeats 40000000 in
theorem rm0 (l : Launch) (Z : State) (a0 : Array Value) (hw : ∀ d ∈ tables_1, d.before a0 Z = true) (ws : List Jvm.Cond) (p0_0 p0_1 p0_2 p0_3 p0_4 p0_5 cs : Int32) (fm : Value) (h0 : Heap) (n0 : Nat) (Z0 : n0 ≤ h0.size) (pf_O : Old Z n0 h0) (pS_COMPAC : Sta Z Z.heap "java/lang/String" "COMPACT_STRINGS" "Z" (.int cs)) (hcs : ¬ (cs = 0)) (pS_SIOOBE : Sta Z Z.heap "jdk/internal/util/Preconditions" "SIOOBE_FORMATTER" "Ljava/util/function/BiFunction;" fm) (rfm : fm.isRef = true) :
    MetFree l x (head1 (Jvm.Cond.code x code maxLocals ret :: ws) room_1) (fun a U => a = #[(.int p0_0), (.int p0_1), (.int p0_2), (.int p0_3), (.int p0_4), (.int p0_5)] ∧ Z.Warmed39 U.vm ∧ U.heap = h0) (fun _ _ _ _ _ => True) (fun _ U o U' => ∃ v L, o = .returned v ∧ Q_rm0 Z p0_0 p0_1 p0_2 p0_3 p0_4 p0_5 cs fm h0 n0 v U'.heap L ∧ own_FE U o U' L room_1.cells room_1.slots) := by
  refine MetFree.of_bodySF (plainFor_of_name pn_com_example_arbiter_arbiter_OrdinalTableOrdinalPinLaw) hisR ?_
  intro p e s m args below meth c s₁ Bd hml0 hP hK
  obtain ⟨rfl, hZ, hh⟩ := hP
  have hx := Bd.exec
  have hby := Bd.bytes
  have hml : c.maxLocals = 29 := hml0
  have hown : s.vm.findClass "com/example/arbiter/arbiter/OrdinalTableOrdinalPinLaw" = some m.cls := findClass_of_methodNamed Bd.named
  have hnm := (name_of_methodNamed Bd.named Bd.method).1
  have X0 : Stand p l e room_1 s m #[(.int p0_0), (.int p0_1), (.int p0_2), (.int p0_3), (.int p0_4), (.int p0_5)] below meth c s₁ [] 0 0 := Stand.of_body Bd
  have e0 : s₁.heap = h0 := by rw [← hh, Bd.state]; rfl
  have N0 := Fr.nil n0
  have pre0 : ∀ t, Steps p.tables e below (s₁.setTop (mkF m 0 #[iv p0_0, iv p0_1, iv p0_2, iv p0_3, iv p0_4, iv p0_5, .unset, .unset, .unset, .unset, .unset, .unset, .unset, .unset, .unset, .unset, .unset, .unset, .unset, .unset, .unset, .unset, .unset, .unset, .unset, .unset, .unset, .unset, .unset] [])) t → Steps p.tables e below (s₁.setTop (entryFrame m #[(.int p0_0), (.int p0_1), (.int p0_2), (.int p0_3), (.int p0_4), (.int p0_5)] maxLocals)) t := fun t k => castTop (ef_rm0 m p0_0 p0_1 p0_2 p0_3 p0_4 p0_5) k
  have wo0 := hw _ (own_m 0 rfl)
  have wo1 := hw _ (own_m 1 rfl)
  have wo2 := hw _ (own_m 2 rfl)
  have wo3 := hw _ (own_m 3 rfl)
  have wo4 := hw _ (own_m 4 rfl)
  have wo5 := hw _ (own_m 5 rfl)
  have wo7 := hw _ (own_m 7 rfl)
  have wo8 := hw _ (own_m 8 rfl)
  have wo9 := hw _ (own_m 9 rfl)
  have wo10 := hw _ (own_m 10 rfl)
  have wo17 := hw _ (own_m 17 rfl)
  have wo30 := hw _ (own_m 30 rfl)
  have wo32 := hw _ (own_m 32 rfl)
  have wo33 := hw _ (own_m 33 rfl)
  have wo34 := hw _ (own_m 34 rfl)
  have wo35 := hw _ (own_m 35 rfl)
  have wo36 := hw _ (own_m 36 rfl)
  have wo103 := hw _ (own_m 103 rfl)
  have wo104 := hw _ (own_m 104 rfl)
  have wo105 := hw _ (own_m 105 rfl)
  have wo106 := hw _ (own_m 106 rfl)
  have wo107 := hw _ (own_m 107 rfl)
  have wo121 := hw _ (own_m 121 rfl)
  have wo122 := hw _ (own_m 122 rfl)
  have wo123 := hw _ (own_m 123 rfl)
  have wo124 := hw _ (own_m 124 rfl)
  have wo125 := hw _ (own_m 125 rfl)
  have wo126 := hw _ (own_m 126 rfl)
  have wo129 := hw _ (own_m 129 rfl)
  have wo133 := hw _ (own_m 133 rfl)
  have wo135 := hw _ (own_m 135 rfl)
  have wo137 := hw _ (own_m 137 rfl)
  have wo139 := hw _ (own_m 139 rfl)
  have wo140 := hw _ (own_m 140 rfl)
  have wo141 := hw _ (own_m 141 rfl)
  have wo142 := hw _ (own_m 142 rfl)
  have wo143 := hw _ (own_m 143 rfl)
  have wo144 := hw _ (own_m 144 rfl)
  have wo173 := hw _ (own_m 173 rfl)
  have wo198 := hw _ (own_m 198 rfl)
  have wo199 := hw _ (own_m 199 rfl)
  have wo200 := hw _ (own_m 200 rfl)
  have wo201 := hw _ (own_m 201 rfl)
  have wo202 := hw _ (own_m 202 rfl)
  have wo203 := hw _ (own_m 203 rfl)
  have wo216 := hw _ (own_m 216 rfl)
  have wo217 := hw _ (own_m 217 rfl)
  have wo218 := hw _ (own_m 218 rfl)
  have wo219 := hw _ (own_m 219 rfl)
  have wo220 := hw _ (own_m 220 rfl)
  have wo221 := hw _ (own_m 221 rfl)
  have wo222 := hw _ (own_m 222 rfl)
  have wo223 := hw _ (own_m 223 rfl)
  obtain ⟨a1_, h_a1_⟩ : ∃ z : Int32, z = (p0_1 >>> ((2 : Int32) &&& 31)) := ⟨_, rfl⟩
  obtain ⟨b1_, h_b1_⟩ : ∃ z : Int32, z = ((a1_ + 1) + (p0_2 &&& 65535)) := ⟨_, rfl⟩
  obtain ⟨g1_, h_g1_⟩ : ∃ z : Int32, z = ((b1_ + 1) + ((p0_2.toUInt32 >>> ((16 : Int32) &&& 31).toUInt32).toInt32)) := ⟨_, rfl⟩
  obtain ⟨d1_, h_d1_⟩ : ∃ z : Int32, z = ((g1_ + 1) + (p0_3 &&& 1073741823)) := ⟨_, rfl⟩
  obtain ⟨a2_, h_a2_⟩ : ∃ z : Int32, z = (p0_5 >>> ((10 : Int32) &&& 31)) := ⟨_, rfl⟩
  obtain ⟨b2_, h_b2_⟩ : ∃ z : Int32, z = ((a2_ + 1) + (((p0_4.toUInt32 >>> ((14 : Int32) &&& 31).toUInt32).toInt32) &&& 255)) := ⟨_, rfl⟩
  obtain ⟨g2_, h_g2_⟩ : ∃ z : Int32, z = ((b2_ + 1) + (((p0_4.toUInt32 >>> ((22 : Int32) &&& 31).toUInt32).toInt32) &&& 255)) := ⟨_, rfl⟩
  obtain ⟨d2_, h_d2_⟩ : ∃ z : Int32, z = ((g2_ + 1) + ((p0_3.toUInt32 >>> ((30 : Int32) &&& 31).toUInt32).toInt32)) := ⟨_, rfl⟩
  obtain ⟨n1_, h_n1_⟩ : ∃ z : Int32, z = ((1 : Int32) + (p0_5 &&& 3)) := ⟨_, rfl⟩
  have hn1 : 0 < n1_.toInt ∧ n1_.toInt < 5 := by rw [h_n1_]; exact own_n _
  obtain ⟨n2_, h_n2_⟩ : ∃ z : Int32, z = ((1 : Int32) + (((p0_5.toUInt32 >>> ((2 : Int32) &&& 31).toUInt32).toInt32) &&& 3)) := ⟨_, rfl⟩
  have hn2 : 0 < n2_.toInt ∧ n2_.toInt < 5 := by rw [h_n2_]; exact own_n _
  obtain ⟨i1_, h_i1_⟩ : ∃ z : Int32, z = ((((p0_5.toUInt32 >>> ((4 : Int32) &&& 31).toUInt32).toInt32) &&& 3) % n1_) := ⟨_, rfl⟩
  have hi1 : 0 ≤ i1_.toInt ∧ i1_.toInt < n1_.toInt := by rw [h_i1_]; exact own_rm hn1
  obtain ⟨i2_, h_i2_⟩ : ∃ z : Int32, z = ((((p0_5.toUInt32 >>> ((6 : Int32) &&& 31).toUInt32).toInt32) &&& 3) % n2_) := ⟨_, rfl⟩
  have hi2 : 0 ≤ i2_.toInt ∧ i2_.toInt < n2_.toInt := by rw [h_i2_]; exact own_rm hn2
  obtain ⟨_, _, ⟨T1, L1, k1, n1⟩, -, X1, ⟨Lc1, hQ1, l1, y1, z1⟩, st1⟩ := Jvm.LawKit.callS X0 hx (y := MN1) hown (mvT hZ wo2) (mvT hZ wo3) (mvT hZ wo4) (mvT hZ wo5) (by decide) (backOf (W := 0) (rm1 l Z a0 hw [] a1_ b1_ g1_ d1_ n1_ h0 n0 Z0 hn1) hZ wo5 wo4 (by decide) (by decide)) (g := (mkF m 139 #[iv p0_0, iv p0_1, iv p0_2, iv p0_3, iv p0_4, iv p0_5, iv a1_, iv b1_, iv g1_, iv d1_, iv a2_, iv b2_, iv g2_, iv d2_, iv n1_, iv n2_, iv i1_, iv i2_, .unset, .unset, .unset, .unset, .unset, .unset, .unset, .unset, .unset, .unset, .unset] [(.int n1_), (.int d1_), (.int g1_), (.int b1_), (.int a1_)])) rfl (by rw [hml]; rfl) (argsL := [(.int a1_), (.int b1_), (.int g1_), (.int d1_), (.int n1_)]) (rest := []) (lenOf pd_15 rfl) rfl (by show 2 * 0 + _ ≤ _; exact Nat.le_of_eq rfl) (hb hby at_139) (fun _ _ => ⟨rfl, e0, (by decide : 0 + 1 ≤ _), (by decide : 0 + 4 ≤ _)⟩)
  dsimp only [Pt.U, Pt.locs, Pt.cells, Pt.slots] at X1 l1 y1 z1 st1 hQ1
  rw [l1, y1, z1] at X1
  obtain ⟨r_1, rfl, N1q, K1q, hq1_0, hq1_1⟩ := hQ1
  have N2 := Fr.app N0 N1q
  have g3 : n0 ≤ r_1 := Nat.le_trans Z0 hq1_0
  have bz4 : h0.size ≤ r_1 := Nat.le_trans (Keep.refl h0 []).1 hq1_0
  have K5 : Keep h0 T1.heap [] := (Keep.refl h0 []).trans K1q all0
  have f7 := (Nat.le_trans Z0 K1q.1)
  obtain ⟨_, _, ⟨T6, L6, k6, n6⟩, -, X6, ⟨Lc6, hQ6, l6, y6, z6⟩, st6⟩ := Jvm.LawKit.callS X1 hx (y := MN1) hown (mvT hZ wo2) (mvT hZ wo3) (mvT hZ wo4) (mvT hZ wo5) (by decide) (backOf (W := 0) (rm1 l Z a0 hw [] a2_ b2_ g2_ d2_ n2_ (T1.heap) n0 f7 hn2) hZ wo5 wo4 (by decide) (by decide)) (g := (mkF m 154 #[iv p0_0, iv p0_1, iv p0_2, iv p0_3, iv p0_4, iv p0_5, iv a1_, iv b1_, iv g1_, iv d1_, iv a2_, iv b2_, iv g2_, iv d2_, iv n1_, iv n2_, iv i1_, iv i2_, rv r_1, .unset, .unset, .unset, .unset, .unset, .unset, .unset, .unset, .unset, .unset] [(.int n2_), (.int d2_), (.int g2_), (.int b2_), (.int a2_)])) rfl (by rw [hml]; rfl) (argsL := [(.int a2_), (.int b2_), (.int g2_), (.int d2_), (.int n2_)]) (rest := []) (lenOf pd_15 rfl) rfl (by show 2 * 0 + _ ≤ _; exact Nat.le_of_eq rfl) (hb hby at_154) (fun _ _ => ⟨rfl, rfl, (by decide : 1 + 1 ≤ _), (by decide : 4 + 4 ≤ _)⟩)
  dsimp only [Pt.U, Pt.locs, Pt.cells, Pt.slots] at X6 l6 y6 z6 st6 hQ6
  rw [l6, y6, z6] at X6
  obtain ⟨r_6, rfl, N6q, K6q, hq6_0, hq6_1⟩ := hQ6
  have N8 := Fr.app N2 N6q
  have ne9 : r_1 ≠ r_6 := Nat.ne_of_lt (Nat.lt_of_lt_of_le hq1_1.lt hq6_0)
  have g10 : n0 ≤ r_6 := Nat.le_trans f7 hq6_0
  have bz11 : h0.size ≤ r_6 := Nat.le_trans (K5).1 hq6_0
  have K12 : Keep h0 T6.heap [] := (K5).trans K6q all0
  obtain ⟨x0_, h_x0_⟩ : ∃ z : Int32, z = (((33 : Int32) + ((p0_4 &&& 127) % (94 : Int32))).toUInt32.toUInt16.toUInt32.toInt32) := ⟨_, rfl⟩
  have hc0 : (¬ x0_ < 0 ∧ ¬ (255 : Int32) < x0_) ∧ (32 : Int32) < x0_ ∧ x0_ < 128 := by rw [h_x0_]; exact own_ch _
  obtain ⟨x1_, h_x1_⟩ : ∃ z : Int32, z = (((33 : Int32) + ((((p0_4.toUInt32 >>> ((7 : Int32) &&& 31).toUInt32).toInt32) &&& 127) % (94 : Int32))).toUInt32.toUInt16.toUInt32.toInt32) := ⟨_, rfl⟩
  have hc1 : (¬ x1_ < 0 ∧ ¬ (255 : Int32) < x1_) ∧ (32 : Int32) < x1_ ∧ x1_ < 128 := by rw [h_x1_]; exact own_ch _
  have f13 := ((pf_O.keep K1q all0).keep K6q all0)
  have f15 := (Nat.le_trans f7 K6q.1)
  obtain ⟨_, _, ⟨T14, L14, k14, n14⟩, -, X14, ⟨Lc14, hQ14, l14, y14, z14⟩, st14⟩ := Jvm.LawKit.callS X6 hx (y := MN2) hown (mvT hZ wo7) (mvT hZ wo8) (mvT hZ wo9) (mvT hZ wo10) (by decide) (backOf (W := 0) (rm2 l Z a0 hw [] x0_ cs (T6.heap) n0 f15 f13 pS_COMPAC hcs hc0.1) hZ wo10 wo9 (by decide) (by decide)) (g := (mkF m 192 #[iv p0_0, iv p0_1, iv p0_2, iv p0_3, iv p0_4, iv p0_5, iv a1_, iv b1_, iv g1_, iv d1_, iv a2_, iv b2_, iv g2_, iv d2_, iv n1_, iv n2_, iv i1_, iv i2_, rv r_1, rv r_6, iv x0_, iv x1_, .unset, .unset, .unset, .unset, .unset, .unset, .unset] [(.int x0_)])) rfl (by rw [hml]; rfl) (argsL := [(.int x0_)]) (rest := []) (lenOf pd_5 rfl) rfl (by show 2 * 0 + _ ≤ _; exact Nat.le_of_eq rfl) (hb hby at_192) (fun _ _ => ⟨rfl, rfl, (by decide : 2 + 2 ≤ _), (by decide : 8 + 5 ≤ _)⟩)
  dsimp only [Pt.U, Pt.locs, Pt.cells, Pt.slots] at X14 l14 y14 z14 st14 hQ14
  rw [l14, y14, z14] at X14
  obtain ⟨r_14, b_14, rfl, N14q, K14q, hq14_0, hq14_1, hq14_2, hq14_3, hq14_4, hq14_5, hq14_6⟩ := hQ14
  have N16 := Fr.app N8 N14q
  have f17 := (hq1_1.keep K6q nin0)
  have ne18 : r_1 ≠ r_14 := Nat.ne_of_lt (Nat.lt_of_lt_of_le f17.lt hq14_0)
  have ne19 : r_6 ≠ r_14 := Nat.ne_of_lt (Nat.lt_of_lt_of_le hq6_1.lt hq14_0)
  have g20 : n0 ≤ r_14 := Nat.le_trans f15 hq14_0
  have bz21 : h0.size ≤ r_14 := Nat.le_trans (K12).1 hq14_0
  have ne22 : r_1 ≠ b_14 := Nat.ne_of_lt (Nat.lt_of_lt_of_le f17.lt hq14_1)
  have ne23 : r_6 ≠ b_14 := Nat.ne_of_lt (Nat.lt_of_lt_of_le hq6_1.lt hq14_1)
  have g24 : n0 ≤ b_14 := Nat.le_trans f15 hq14_1
  have bz25 : h0.size ≤ b_14 := Nat.le_trans (K12).1 hq14_1
  have K26 : Keep h0 T14.heap [] := (K12).trans K14q all0
  have f27 := (f13.keep K14q all0)
  have f29 := (Nat.le_trans f15 K14q.1)
  have hZ28 := hZ
  have hown28 := hown
  obtain ⟨_, _, ⟨T28, L28, k28, n28⟩, -, X28, Sp28, Gp28, ⟨Lc28, hQ28, l28, y28, z28⟩, st28⟩ := callSS X14 hx (y := MN7) hown (mvT hZ wo33) (mvT hZ wo34) (mvT hZ wo35) (mvT hZ wo36) (by decide) (backOfS (W := 0) (of_1 l Z a0 hw [] r_14 b_14 x0_ cs fm (T14.heap) n0 f29 f27 pS_COMPAC hcs pS_SIOOBE rfm hq14_3 hq14_4 hq14_5 hq14_6 ((own_one hc0.1) : ∀ c ∈ ([x0_] : List Int32), ¬ c < 0 ∧ ¬ (255 : Int32) < c) hc0.2.1 hc0.2.2) hZ wo36 wo35 (by decide) (by decide)) (g := (mkF m 195 #[iv p0_0, iv p0_1, iv p0_2, iv p0_3, iv p0_4, iv p0_5, iv a1_, iv b1_, iv g1_, iv d1_, iv a2_, iv b2_, iv g2_, iv d2_, iv n1_, iv n2_, iv i1_, iv i2_, rv r_1, rv r_6, iv x0_, iv x1_, .unset, .unset, .unset, .unset, .unset, .unset, .unset] [(.ref r_14)])) rfl (by rw [hml]; rfl) (argsL := [(.ref r_14)]) (rest := []) (lenOf pd_26 rfl) rfl (by show 2 * 0 + _ ≤ _; exact Nat.le_of_eq rfl) (hb hby at_195) (fun _ _ => ⟨rfl, rfl, (by decide : 4 + 3 ≤ _), (by decide : 13 + 21 ≤ _)⟩)
  dsimp only [Pt.U, Pt.locs, Pt.cells, Pt.slots] at X28 l28 y28 z28 st28 hQ28 Sp28 Gp28
  rw [l28, y28, z28] at X28
  obtain ⟨X28, S28, hZ, hown⟩ := rebS (s := s) (vm0 := s.vm) (Z := Z) (own := "com/example/arbiter/arbiter/OrdinalTableOrdinalPinLaw") ((State.WarmedH.refl s).since 0) (Nat.zero_le _) X28 Sp28 Gp28 hZ hown
  obtain ⟨r_28, rfl, N28q, K28q, hq28_0, hq28_1, hq28_2⟩ := hQ28
  have N30 := Fr.app N16 N28q
  have f31 := (f17.keep K14q nin0)
  have ne32 : r_1 ≠ r_28 := Nat.ne_of_lt (Nat.lt_of_lt_of_le f31.lt hq28_0)
  have f33 := (hq6_1.keep K14q nin0)
  have ne34 : r_6 ≠ r_28 := Nat.ne_of_lt (Nat.lt_of_lt_of_le f33.lt hq28_0)
  have ne35 : r_14 ≠ r_28 := Nat.ne_of_lt (Nat.lt_of_lt_of_le hq14_3.lt hq28_0)
  have ne36 : b_14 ≠ r_28 := Nat.ne_of_lt (Nat.lt_of_lt_of_le hq14_6.lt hq28_0)
  have g37 : n0 ≤ r_28 := Nat.le_trans f29 hq28_0
  have bz38 : h0.size ≤ r_28 := Nat.le_trans (K26).1 hq28_0
  have K39 : Keep h0 T28.heap [] := (K26).trans K28q all0
  obtain ⟨T40, h40, X40, e40, E40, A40, D40, -, st40⟩ := newO X28 hx hZ hown wo103 wo17 wo9 rfl (g := (mkF m 200 #[iv p0_0, iv p0_1, iv p0_2, iv p0_3, iv p0_4, iv p0_5, iv a1_, iv b1_, iv g1_, iv d1_, iv a2_, iv b2_, iv g2_, iv d2_, iv n1_, iv n2_, iv i1_, iv i2_, rv r_1, rv r_6, iv x0_, iv x1_, rv r_28, .unset, .unset, .unset, .unset, .unset, .unset] [])) rfl (hb hby at_200) (by decide) (by decide)
  obtain ⟨b40, gg40⟩ : ∃ z, z = T28.heap.size := ⟨_, rfl⟩
  rw [← gg40] at A40 D40 st40
  have f41 := (f31.keep K28q nin0)
  have ne42 : r_1 ≠ b40 := Nat.ne_of_lt (Nat.lt_of_lt_of_le f41.lt (Nat.le_of_eq gg40.symm))
  have f43 := (f33.keep K28q nin0)
  have ne44 : r_6 ≠ b40 := Nat.ne_of_lt (Nat.lt_of_lt_of_le f43.lt (Nat.le_of_eq gg40.symm))
  have f45 := (hq14_3.keep K28q)
  have ne46 : r_14 ≠ b40 := Nat.ne_of_lt (Nat.lt_of_lt_of_le f45.lt (Nat.le_of_eq gg40.symm))
  have f47 := (hq14_6.keep K28q nin0)
  have ne48 : b_14 ≠ b40 := Nat.ne_of_lt (Nat.lt_of_lt_of_le f47.lt (Nat.le_of_eq gg40.symm))
  have ne49 : r_28 ≠ b40 := Nat.ne_of_lt (Nat.lt_of_lt_of_le hq28_1.lt (Nat.le_of_eq gg40.symm))
  have f51 := (Nat.le_trans f29 K28q.1)
  have g50 : n0 ≤ b40 := Nat.le_trans f51 (Nat.le_of_eq gg40.symm)
  have bz52 : h0.size ≤ b40 := Nat.le_trans (K39).1 (Nat.le_of_eq gg40.symm)
  have K53 : Keep h0 h40 [] := (K39).ext E40
  have f54 : Fld Z h40 b40 "java/lang/String" "value" "[B" .null := D40 (Or.inr wo30) (ty := (.array .byte)) (by decide)
  have f55 : Fld Z h40 b40 "java/lang/String" "coder" "B" (.int 0) := D40 (Or.inr wo32) (ty := .byte) (by decide)
  obtain ⟨T56, h56, k56, X56, e56, E56, A56, st56⟩ := newP (aty := .char) X40 hx hZ wo104 e40 (g := (mkF m 205 #[iv p0_0, iv p0_1, iv p0_2, iv p0_3, iv p0_4, iv p0_5, iv a1_, iv b1_, iv g1_, iv d1_, iv a2_, iv b2_, iv g2_, iv d2_, iv n1_, iv n2_, iv i1_, iv i2_, rv r_1, rv r_6, iv x0_, iv x1_, rv r_28, .unset, .unset, .unset, .unset, .unset, .unset] [(.int 2), (.ref b40), (.ref b40)])) rfl (hb hby at_205) rfl (by decide) (cap := 2) (by decide) (by decide) (by decide) (by decide)
  obtain ⟨b56, gg56⟩ : ∃ z, z = h40.size := ⟨_, rfl⟩
  rw [← gg56] at A56 st56
  have f57 := (f41.ext E40)
  have ne58 : r_1 ≠ b56 := Nat.ne_of_lt (Nat.lt_of_lt_of_le f57.lt (Nat.le_of_eq gg56.symm))
  have f59 := (f43.ext E40)
  have ne60 : r_6 ≠ b56 := Nat.ne_of_lt (Nat.lt_of_lt_of_le f59.lt (Nat.le_of_eq gg56.symm))
  have f61 := (f45.ext E40)
  have ne62 : r_14 ≠ b56 := Nat.ne_of_lt (Nat.lt_of_lt_of_le f61.lt (Nat.le_of_eq gg56.symm))
  have f63 := (f47.ext E40)
  have ne64 : b_14 ≠ b56 := Nat.ne_of_lt (Nat.lt_of_lt_of_le f63.lt (Nat.le_of_eq gg56.symm))
  have f65 := (hq28_1.ext E40)
  have ne66 : r_28 ≠ b56 := Nat.ne_of_lt (Nat.lt_of_lt_of_le f65.lt (Nat.le_of_eq gg56.symm))
  have ne67 : b40 ≠ b56 := Nat.ne_of_lt (Nat.lt_of_lt_of_le A40.lt (Nat.le_of_eq gg56.symm))
  have f69 := (Nat.le_trans f51 E40.1)
  have g68 : n0 ≤ b56 := Nat.le_trans f69 (Nat.le_of_eq gg56.symm)
  have bz70 : h0.size ≤ b56 := Nat.le_trans (K53).1 (Nat.le_of_eq gg56.symm)
  have K72 : Keep h0 h56 [] := (K53).ext E56
  have f71 : Av Z h56 b56 .char (2 : Int32) [(.int 0), (.int 0)] (.int 0) := ⟨_, (Arv.new A56 (by decide)).pad (pad_rep [] (.int 0) 2)⟩
  obtain ⟨kk73, cl73, Ar73, qq73, Sz73, Nn73, Hs73, Gf73⟩ := id f71
  have hin74 : ¬ ((0 : Int32) < 0 ∨ cl73.slots.size ≤ ((0 : Int32)).toNatClampNeg) := inb_of Sz73 ⟨by decide, by decide⟩
  obtain ⟨T75, h75, X75, e75, W75, st75⟩ := stC X56 hx hZ e56 Ar73 (j := 0) hin74 (g := (mkF m 211 #[iv p0_0, iv p0_1, iv p0_2, iv p0_3, iv p0_4, iv p0_5, iv a1_, iv b1_, iv g1_, iv d1_, iv a2_, iv b2_, iv g2_, iv d2_, iv n1_, iv n2_, iv i1_, iv i2_, rv r_1, rv r_6, iv x0_, iv x1_, rv r_28, .unset, .unset, .unset, .unset, .unset, .unset] [(.int x0_), (.int 0), (.ref b56), (.ref b56), (.ref b40), (.ref b40)])) rfl rfl (hb hby at_211)
  have K76 : Keep h0 h75 [] := (K72).wr W75 (Or.inr bz70)
  have f77 : Av Z h75 b56 .char (2 : Int32) [(.int (nar .char x0_)), (.int 0)] (.int 0) := ⟨_, Arv.set Ar73 qq73 Sz73 Nn73 Hs73 Gf73 (by first | rfl | exact fits_nar_char _) W75 0 rfl (Nat.le_of_ble_eq_true rfl)⟩
  have N78 := Fr.snoc X75 N30 g68
  obtain ⟨kk79, cl79, Ar79, qq79, Sz79, Nn79, Hs79, Gf79⟩ := id f77
  have hin80 : ¬ ((1 : Int32) < 0 ∨ cl79.slots.size ≤ ((1 : Int32)).toNatClampNeg) := inb_of Sz79 ⟨by decide, by decide⟩
  obtain ⟨T81, h81, X81, e81, W81, st81⟩ := stC X75 hx hZ e75 Ar79 (j := 1) hin80 (g := (mkF m 216 #[iv p0_0, iv p0_1, iv p0_2, iv p0_3, iv p0_4, iv p0_5, iv a1_, iv b1_, iv g1_, iv d1_, iv a2_, iv b2_, iv g2_, iv d2_, iv n1_, iv n2_, iv i1_, iv i2_, rv r_1, rv r_6, iv x0_, iv x1_, rv r_28, .unset, .unset, .unset, .unset, .unset, .unset] [(.int x1_), (.int 1), (.ref b56), (.ref b56), (.ref b40), (.ref b40)])) rfl rfl (hb hby at_216)
  have K82 : Keep h0 h81 [] := (K76).wr W81 (Or.inr bz70)
  have f83 : Av Z h81 b56 .char (2 : Int32) [(.int (nar .char x0_)), (.int (nar .char x1_))] (.int 0) := ⟨_, Arv.set Ar79 qq79 Sz79 Nn79 Hs79 Gf79 (by first | rfl | exact fits_nar_char _) W81 1 rfl (Nat.le_of_ble_eq_true rfl)⟩
  have N84 := Fr.snoc X81 N78 g68
  have q85 : (nar .char x0_) = x0_ := own_narc hc0.1
  have f86 : Av Z h81 b56 .char (2 : Int32) [(.int x0_), (.int (nar .char x1_))] (.int 0) := by rw [← q85]; exact f83
  have q87 : (nar .char x1_) = x1_ := own_narc hc1.1
  have f88 : Av Z h81 b56 .char (2 : Int32) [(.int x0_), (.int x1_)] (.int 0) := by rw [← q87]; exact f86
  obtain ⟨kc89, Vc89⟩ := id f88
  have hws89 : ∀ d ∈ StrChars.Road.words, d.before a0 Z = true := fun d hd => hw d ((by decide +kernel : ∀ d ∈ StrChars.Road.words, d ∈ tables_1) d hd)
  have hbd89 : ([x0_, x1_] : List Int32).length ≤ 2 := (Nat.le_of_ble_eq_true rfl)
  have f90 := (((((f27.keep K28q all0).ext E40).ext E56).wr W75 g68).wr W81 g68)
  have f91 := (Nat.le_trans (Nat.le_trans (Nat.le_trans f69 E56.1) (Keep.of_wr W75).1) (Keep.of_wr W81).1)
  have f92 := (((A40.ext E56).wr W75).wr W81)
  have f93 := (((f54.ext E56).other W75 (Or.inl ne67)).other W81 (Or.inl ne67))
  have f94 := (((f55.ext E56).other W75 (Or.inl ne67)).other W81 (Or.inl ne67))
  obtain ⟨_, _, ⟨T89, L89, k89, n89⟩, -, X89, ⟨Lc89, hQ89, l89, y89, z89⟩, st89⟩ := X81.specialBack hx (y := MN22) rfl hown (mvT hZ wo105) (mvT hZ wo106) (mvT hZ wo107) (by decide) (StrChars.Road.backV (W := 1) hZ hws89 (kI := 4) wo17 (cs := ([x0_, x1_] : List Int32)) (bs := ([x0_, x1_] : List Int32).map (fun c => c.toInt8.toInt32)) (n := ([x0_, x1_] : List Int32).length) g50 f91 f92 f93 f94 Vc89 (pS_COMPAC.ext f90.2) hcs rfl rfl (Nat.le_of_ble_eq_true rfl) (Nat.le_trans hbd89 (by decide)) (own_two hc0.1 hc1.1) rfl (by decide) (by decide)) (g := (mkF m 217 #[iv p0_0, iv p0_1, iv p0_2, iv p0_3, iv p0_4, iv p0_5, iv a1_, iv b1_, iv g1_, iv d1_, iv a2_, iv b2_, iv g2_, iv d2_, iv n1_, iv n2_, iv i1_, iv i2_, rv r_1, rv r_6, iv x0_, iv x1_, rv r_28, .unset, .unset, .unset, .unset, .unset, .unset] [(.ref b56), (.ref b40), (.ref b40)])) rfl (by rw [hml]; rfl) (Steps.refl _) (a := b40) (argsL := [(.ref b56)]) (rest := [(.ref b40)]) (lenOf pd_35 rfl) rfl (by show 2 * 0 + _ ≤ _; exact Nat.le_of_eq rfl) (hb hby at_217) (fun _ _ => ⟨rfl, e81, (by decide : 9 + 1 ≤ _), (Nat.le_trans (Nat.add_le_add_left hbd89 40) (by decide : 40 + 2 ≤ _))⟩)
  dsimp only [Pt.U, Pt.locs, Pt.cells, Pt.slots] at X89 l89 y89 z89 st89 hQ89
  rw [l89, y89, z89] at X89
  have X89 := X89.mono (Nat.le_refl _) (Nat.add_le_add_left hbd89 40)
  obtain ⟨rfl, N89q, K89q, hE89, hC89, t89, kb89, gt89, bt89, nt89, hV89, hA89⟩ := hQ89
  have N95 := Fr.app N84 N89q
  have f96 := (((f57.ext E56).other W75 ne58).other W81 ne58)
  have ne97 : r_1 ≠ t89 := Nat.ne_of_lt (Nat.lt_of_lt_of_le f96.lt bt89)
  have f98 := (((f59.ext E56).other W75 ne60).other W81 ne60)
  have ne99 : r_6 ≠ t89 := Nat.ne_of_lt (Nat.lt_of_lt_of_le f98.lt bt89)
  have f100 := (((f61.ext E56).wr W75).wr W81)
  have ne101 : r_14 ≠ t89 := Nat.ne_of_lt (Nat.lt_of_lt_of_le f100.lt bt89)
  have f102 := (((f63.ext E56).other W75 ne64).other W81 ne64)
  have ne103 : b_14 ≠ t89 := Nat.ne_of_lt (Nat.lt_of_lt_of_le f102.lt bt89)
  have f104 := (((f65.ext E56).wr W75).wr W81)
  have ne105 : r_28 ≠ t89 := Nat.ne_of_lt (Nat.lt_of_lt_of_le f104.lt bt89)
  have ne106 : b40 ≠ t89 := Nat.ne_of_lt (Nat.lt_of_lt_of_le f92.lt bt89)
  have ne107 : b56 ≠ t89 := Nat.ne_of_lt (Nat.lt_of_lt_of_le f88.lt bt89)
  have g108 : n0 ≤ t89 := Nat.le_trans f91 bt89
  have bz109 : h0.size ≤ t89 := Nat.le_trans (K82).1 bt89
  have K110 : Keep h0 T89.heap [] := (K82).trans K89q (allS (P := fun x => x ∈ [] ∨ h0.size ≤ x) (Or.inr bz52) all0)
  have f111 : Av Z T89.heap t89 .byte (2 : Int32) (own_vs [x0_, x1_]) (.int 0) := ⟨kb89, by have q_ := hA89; rw [List.map_map] at q_; exact q_⟩
  have f112 := (f90.keep K89q (allS g50 all0))
  have f114 := (Nat.le_trans f91 K89q.1)
  have f115 := (Nat.le_trans (Nat.le_trans (Nat.le_trans (Nat.le_trans (Nat.le_trans (Nat.le_refl T28.heap.size) E40.1) E56.1) (Keep.of_wr W75).1) (Keep.of_wr W81).1) K89q.1)
  have hZ113 := hZ
  have hown113 := hown
  obtain ⟨_, _, ⟨T113, L113, k113, n113⟩, -, X113, Sp113, Gp113, ⟨Lc113, hQ113, l113, y113, z113⟩, st113⟩ := callSS X89 hx (y := MN7) hown (mvT hZ wo33) (mvT hZ wo34) (mvT hZ wo35) (mvT hZ wo36) (by decide) (backOfS (W := 0) (of_2 l Z a0 hw [] b40 t89 x0_ x1_ cs fm (T89.heap) n0 f114 f112 pS_COMPAC hcs pS_SIOOBE rfm hE89 hV89 hC89 f111 ((own_two hc0.1 hc1.1) : ∀ c ∈ ([x0_, x1_] : List Int32), ¬ c < 0 ∧ ¬ (255 : Int32) < c) hc0.2.1 hc1.2.1 hc0.2.2 hc1.2.2) hZ wo36 wo35 (by decide) (by decide)) (g := (mkF m 220 #[iv p0_0, iv p0_1, iv p0_2, iv p0_3, iv p0_4, iv p0_5, iv a1_, iv b1_, iv g1_, iv d1_, iv a2_, iv b2_, iv g2_, iv d2_, iv n1_, iv n2_, iv i1_, iv i2_, rv r_1, rv r_6, iv x0_, iv x1_, rv r_28, .unset, .unset, .unset, .unset, .unset, .unset] [(.ref b40)])) rfl (by rw [hml]; rfl) (argsL := [(.ref b40)]) (rest := []) (lenOf pd_26 rfl) rfl (by show 2 * 0 + _ ≤ _; exact Nat.le_of_eq rfl) (hb hby at_220) (fun _ _ => ⟨rfl, rfl, (by decide : 10 + 3 ≤ _), (by decide : 42 + 21 ≤ _)⟩)
  dsimp only [Pt.U, Pt.locs, Pt.cells, Pt.slots] at X113 l113 y113 z113 st113 hQ113 Sp113 Gp113
  rw [l113, y113, z113] at X113
  obtain ⟨X113, S113, hZ, hown⟩ := rebS (s := s) (vm0 := T28.vm) (Z := Z) (own := "com/example/arbiter/arbiter/OrdinalTableOrdinalPinLaw") S28 f115 X113 Sp113 Gp113 hZ hown
  obtain ⟨r_113, rfl, N113q, K113q, hq113_0, hq113_1, hq113_2⟩ := hQ113
  have N116 := Fr.app N95 N113q
  have f117 := (f96.keep K89q (ninS ne42 nin0))
  have ne118 : r_1 ≠ r_113 := Nat.ne_of_lt (Nat.lt_of_lt_of_le f117.lt hq113_0)
  have f119 := (f98.keep K89q (ninS ne44 nin0))
  have ne120 : r_6 ≠ r_113 := Nat.ne_of_lt (Nat.lt_of_lt_of_le f119.lt hq113_0)
  have f121 := (f100.keep K89q)
  have ne122 : r_14 ≠ r_113 := Nat.ne_of_lt (Nat.lt_of_lt_of_le f121.lt hq113_0)
  have f123 := (f102.keep K89q (ninS ne48 nin0))
  have ne124 : b_14 ≠ r_113 := Nat.ne_of_lt (Nat.lt_of_lt_of_le f123.lt hq113_0)
  have f125 := (f104.keep K89q)
  have ne126 : r_28 ≠ r_113 := Nat.ne_of_lt (Nat.lt_of_lt_of_le f125.lt hq113_0)
  have ne127 : b40 ≠ r_113 := Nat.ne_of_lt (Nat.lt_of_lt_of_le hE89.lt hq113_0)
  have f128 := (f88.keep K89q (ninS (Ne.symm ne67) nin0))
  have ne129 : b56 ≠ r_113 := Nat.ne_of_lt (Nat.lt_of_lt_of_le f128.lt hq113_0)
  have ne130 : t89 ≠ r_113 := Nat.ne_of_lt (Nat.lt_of_lt_of_le f111.lt hq113_0)
  have g131 : n0 ≤ r_113 := Nat.le_trans f114 hq113_0
  have bz132 : h0.size ≤ r_113 := Nat.le_trans (K110).1 hq113_0
  have K133 : Keep h0 T113.heap [] := (K110).trans K113q all0
  obtain ⟨T134, h134, X134, e134, E134, A134, D134, -, st134⟩ := newO X113 hx hZ hown wo121 wo122 wo123 rfl (g := (mkF m 225 #[iv p0_0, iv p0_1, iv p0_2, iv p0_3, iv p0_4, iv p0_5, iv a1_, iv b1_, iv g1_, iv d1_, iv a2_, iv b2_, iv g2_, iv d2_, iv n1_, iv n2_, iv i1_, iv i2_, rv r_1, rv r_6, iv x0_, iv x1_, rv r_28, rv r_113, .unset, .unset, .unset, .unset, .unset] [])) rfl (hb hby at_225) (by decide) (by decide)
  obtain ⟨b134, gg134⟩ : ∃ z, z = T113.heap.size := ⟨_, rfl⟩
  rw [← gg134] at A134 D134 st134
  have f135 := (f117.keep K113q nin0)
  have ne136 : r_1 ≠ b134 := Nat.ne_of_lt (Nat.lt_of_lt_of_le f135.lt (Nat.le_of_eq gg134.symm))
  have f137 := (f119.keep K113q nin0)
  have ne138 : r_6 ≠ b134 := Nat.ne_of_lt (Nat.lt_of_lt_of_le f137.lt (Nat.le_of_eq gg134.symm))
  have f139 := (f121.keep K113q)
  have ne140 : r_14 ≠ b134 := Nat.ne_of_lt (Nat.lt_of_lt_of_le f139.lt (Nat.le_of_eq gg134.symm))
  have f141 := (f123.keep K113q nin0)
  have ne142 : b_14 ≠ b134 := Nat.ne_of_lt (Nat.lt_of_lt_of_le f141.lt (Nat.le_of_eq gg134.symm))
  have f143 := (f125.keep K113q)
  have ne144 : r_28 ≠ b134 := Nat.ne_of_lt (Nat.lt_of_lt_of_le f143.lt (Nat.le_of_eq gg134.symm))
  have f145 := (hE89.keep K113q)
  have ne146 : b40 ≠ b134 := Nat.ne_of_lt (Nat.lt_of_lt_of_le f145.lt (Nat.le_of_eq gg134.symm))
  have f147 := (f128.keep K113q nin0)
  have ne148 : b56 ≠ b134 := Nat.ne_of_lt (Nat.lt_of_lt_of_le f147.lt (Nat.le_of_eq gg134.symm))
  have f149 := (f111.keep K113q nin0)
  have ne150 : t89 ≠ b134 := Nat.ne_of_lt (Nat.lt_of_lt_of_le f149.lt (Nat.le_of_eq gg134.symm))
  have ne151 : r_113 ≠ b134 := Nat.ne_of_lt (Nat.lt_of_lt_of_le hq113_1.lt (Nat.le_of_eq gg134.symm))
  have f153 := (Nat.le_trans f114 K113q.1)
  have g152 : n0 ≤ b134 := Nat.le_trans f153 (Nat.le_of_eq gg134.symm)
  have bz154 : h0.size ≤ b134 := Nat.le_trans (K133).1 (Nat.le_of_eq gg134.symm)
  have K155 : Keep h0 h134 [] := (K133).ext E134
  have f156 : Fld Z h134 b134 "com/example/arbiter/arbiter/OrdinalTable" "slots" "[I" .null := D134 (Or.inl wo129) (ty := (.array .int)) (by decide)
  have f157 : Fld Z h134 b134 "com/example/arbiter/arbiter/OrdinalTable" "values" "[Ljava/lang/Object;" .null := D134 (Or.inl wo133) (ty := (.array (.object "java/lang/Object"))) (by decide)
  have f158 : Fld Z h134 b134 "com/example/arbiter/arbiter/OrdinalTable" "records" "[I" .null := D134 (Or.inl wo135) (ty := (.array .int)) (by decide)
  have f159 : Fld Z h134 b134 "com/example/arbiter/arbiter/OrdinalTable" "used" "I" (.int 0) := D134 (Or.inl wo137) (ty := .int) (by decide)
  have f160 : Fld Z h134 b134 "com/example/arbiter/arbiter/OrdinalTable" "seed" "I" (.int 0) := D134 (Or.inr wo139) (ty := .int) (by decide)
  have f161 : Fld Z h134 b134 "com/example/arbiter/arbiter/OrdinalTable" "size" "I" (.int 0) := D134 (Or.inl wo173) (ty := .int) (by decide)
  have f162 : Fld Z h134 b134 "com/example/arbiter/arbiter/OrdinalTable" "unused" "I" (.int 0) := D134 (Or.inl wo198) (ty := .int) (by decide)
  have f164 := (Nat.le_trans f153 E134.1)
  obtain ⟨_, _, ⟨T163, L163, k163, n163⟩, -, X163, ⟨Lc163, hQ163, l163, y163, z163⟩, st163⟩ := X134.specialBack hx (y := MN27) rfl hown (mvT hZ wo124) (mvT hZ wo125) (mvT hZ wo126) (by decide) (backOf (W := 1) (rm27 l Z a0 hw [] b134 p0_0 h134 n0 f164 A134 g152 f160 f156 f157 f158 f159 f162 f161) hZ wo126 wo123 (by decide) (by decide)) (g := (mkF m 230 #[iv p0_0, iv p0_1, iv p0_2, iv p0_3, iv p0_4, iv p0_5, iv a1_, iv b1_, iv g1_, iv d1_, iv a2_, iv b2_, iv g2_, iv d2_, iv n1_, iv n2_, iv i1_, iv i2_, rv r_1, rv r_6, iv x0_, iv x1_, rv r_28, rv r_113, .unset, .unset, .unset, .unset, .unset] [(.int p0_0), (.ref b134), (.ref b134)])) rfl (by rw [hml]; rfl) (Steps.refl _) (a := b134) (argsL := [(.int p0_0)]) (rest := [(.ref b134)]) (lenOf pd_10 rfl) rfl (by show 2 * 0 + _ ≤ _; exact Nat.le_of_eq rfl) (hb hby at_230) (fun _ _ => ⟨rfl, e134, (by decide : 14 + 3 ≤ _), (by decide : 70 + 88 ≤ _)⟩)
  dsimp only [Pt.U, Pt.locs, Pt.cells, Pt.slots] at X163 l163 y163 z163 st163 hQ163
  rw [l163, y163, z163] at X163
  obtain ⟨sl_163, va_163, re_163, rfl, N163q, K163q, hq163_0, hq163_1, hq163_2, hq163_3, hq163_4, hq163_5, hq163_6, hq163_7, hq163_8, hq163_9, hq163_10, hq163_11, hq163_12, hq163_13, hq163_14, hq163_15⟩ := hQ163
  have N165 := Fr.app N116 N163q
  have f166 := (f135.ext E134)
  have ne167 : r_1 ≠ sl_163 := Nat.ne_of_lt (Nat.lt_of_lt_of_le f166.lt hq163_0)
  have f168 := (f137.ext E134)
  have ne169 : r_6 ≠ sl_163 := Nat.ne_of_lt (Nat.lt_of_lt_of_le f168.lt hq163_0)
  have f170 := (f139.ext E134)
  have ne171 : r_14 ≠ sl_163 := Nat.ne_of_lt (Nat.lt_of_lt_of_le f170.lt hq163_0)
  have f172 := (f141.ext E134)
  have ne173 : b_14 ≠ sl_163 := Nat.ne_of_lt (Nat.lt_of_lt_of_le f172.lt hq163_0)
  have f174 := (f143.ext E134)
  have ne175 : r_28 ≠ sl_163 := Nat.ne_of_lt (Nat.lt_of_lt_of_le f174.lt hq163_0)
  have f176 := (f145.ext E134)
  have ne177 : b40 ≠ sl_163 := Nat.ne_of_lt (Nat.lt_of_lt_of_le f176.lt hq163_0)
  have f178 := (f147.ext E134)
  have ne179 : b56 ≠ sl_163 := Nat.ne_of_lt (Nat.lt_of_lt_of_le f178.lt hq163_0)
  have f180 := (f149.ext E134)
  have ne181 : t89 ≠ sl_163 := Nat.ne_of_lt (Nat.lt_of_lt_of_le f180.lt hq163_0)
  have f182 := (hq113_1.ext E134)
  have ne183 : r_113 ≠ sl_163 := Nat.ne_of_lt (Nat.lt_of_lt_of_le f182.lt hq163_0)
  have ne184 : b134 ≠ sl_163 := Nat.ne_of_lt (Nat.lt_of_lt_of_le A134.lt hq163_0)
  have g185 : n0 ≤ sl_163 := Nat.le_trans f164 hq163_0
  have bz186 : h0.size ≤ sl_163 := Nat.le_trans (K155).1 hq163_0
  have ne187 : r_1 ≠ va_163 := Nat.ne_of_lt (Nat.lt_of_lt_of_le f166.lt hq163_1)
  have ne188 : r_6 ≠ va_163 := Nat.ne_of_lt (Nat.lt_of_lt_of_le f168.lt hq163_1)
  have ne189 : r_14 ≠ va_163 := Nat.ne_of_lt (Nat.lt_of_lt_of_le f170.lt hq163_1)
  have ne190 : b_14 ≠ va_163 := Nat.ne_of_lt (Nat.lt_of_lt_of_le f172.lt hq163_1)
  have ne191 : r_28 ≠ va_163 := Nat.ne_of_lt (Nat.lt_of_lt_of_le f174.lt hq163_1)
  have ne192 : b40 ≠ va_163 := Nat.ne_of_lt (Nat.lt_of_lt_of_le f176.lt hq163_1)
  have ne193 : b56 ≠ va_163 := Nat.ne_of_lt (Nat.lt_of_lt_of_le f178.lt hq163_1)
  have ne194 : t89 ≠ va_163 := Nat.ne_of_lt (Nat.lt_of_lt_of_le f180.lt hq163_1)
  have ne195 : r_113 ≠ va_163 := Nat.ne_of_lt (Nat.lt_of_lt_of_le f182.lt hq163_1)
  have ne196 : b134 ≠ va_163 := Nat.ne_of_lt (Nat.lt_of_lt_of_le A134.lt hq163_1)
  have g197 : n0 ≤ va_163 := Nat.le_trans f164 hq163_1
  have bz198 : h0.size ≤ va_163 := Nat.le_trans (K155).1 hq163_1
  have ne199 : r_1 ≠ re_163 := Nat.ne_of_lt (Nat.lt_of_lt_of_le f166.lt hq163_2)
  have ne200 : r_6 ≠ re_163 := Nat.ne_of_lt (Nat.lt_of_lt_of_le f168.lt hq163_2)
  have ne201 : r_14 ≠ re_163 := Nat.ne_of_lt (Nat.lt_of_lt_of_le f170.lt hq163_2)
  have ne202 : b_14 ≠ re_163 := Nat.ne_of_lt (Nat.lt_of_lt_of_le f172.lt hq163_2)
  have ne203 : r_28 ≠ re_163 := Nat.ne_of_lt (Nat.lt_of_lt_of_le f174.lt hq163_2)
  have ne204 : b40 ≠ re_163 := Nat.ne_of_lt (Nat.lt_of_lt_of_le f176.lt hq163_2)
  have ne205 : b56 ≠ re_163 := Nat.ne_of_lt (Nat.lt_of_lt_of_le f178.lt hq163_2)
  have ne206 : t89 ≠ re_163 := Nat.ne_of_lt (Nat.lt_of_lt_of_le f180.lt hq163_2)
  have ne207 : r_113 ≠ re_163 := Nat.ne_of_lt (Nat.lt_of_lt_of_le f182.lt hq163_2)
  have ne208 : b134 ≠ re_163 := Nat.ne_of_lt (Nat.lt_of_lt_of_le A134.lt hq163_2)
  have g209 : n0 ≤ re_163 := Nat.le_trans f164 hq163_2
  have bz210 : h0.size ≤ re_163 := Nat.le_trans (K155).1 hq163_2
  have K211 : Keep h0 T163.heap [] := (K155).trans K163q (allS (P := fun x => x ∈ [] ∨ h0.size ≤ x) (Or.inr bz154) all0)
  have f212 := (((f112.keep K113q all0).ext E134).keep K163q (allS g152 all0))
  have f213 := (f170.keep K163q)
  have f214 := (((((((((hq14_4.keep K28q nin0).ext E40).ext E56).other W75 (Or.inl ne62)).other W81 (Or.inl ne62)).keep K89q (ninS ne46 nin0)).keep K113q nin0).ext E134).keep K163q (ninS ne140 nin0))
  have f215 := (((((((((hq14_5.keep K28q nin0).ext E40).ext E56).other W75 (Or.inl ne62)).other W81 (Or.inl ne62)).keep K89q (ninS ne46 nin0)).keep K113q nin0).ext E134).keep K163q (ninS ne140 nin0))
  have f216 := (f172.keep K163q (ninS ne142 nin0))
  have f217 := (A134.keep K163q)
  have f218 := (f166.keep K163q (ninS ne136 nin0))
  have f219 := (f174.keep K163q)
  have f220 := ((((((((hq28_2.ext E40).ext E56).other W75 (Or.inl ne66)).other W81 (Or.inl ne66)).keep K89q (ninS ne49 nin0)).keep K113q nin0).ext E134).keep K163q (ninS ne144 nin0))
  have f222 := (Nat.le_trans f164 K163q.1)
  obtain ⟨cq221, kq221, q221a, q221b, q221c⟩ := isOf hZ rfl f217
  obtain ⟨_, _, ⟨T221, L221, k221, n221⟩, -, X221, ⟨Lc221, hQ221, l221, y221, z221⟩, st221⟩ := X163.virtualBack hx (y := MN28) (z := MN28) hown (mvT hZ wo140) (mvT hZ wo141) (notFace_of_selects (args := #[]) (mvT hZ wo143)) (mvT hZ wo143) (mvT hZ wo142) (by decide) (backOf (W := 0) (pn_1 l Z a0 hw [] b134 sl_163 va_163 re_163 (List.replicate 16 (0 : Int32)) (List.replicate 64 (0 : Int32)) p0_0 (1 : Int32) r_1 (own_pk a1_ b1_ g1_ d1_ n1_) n1_ r_28 r_14 b_14 x0_ cs fm (T163.heap) n0 f222 f212 pS_COMPAC hcs pS_SIOOBE rfm f213 f214 f215 f216 ((own_one hc0.1) : ∀ c ∈ ([x0_] : List Int32), ¬ c < 0 ∧ ¬ (255 : Int32) < c) f217 hq163_6 hq163_7 hq163_8 hq163_9 hq163_10 hq163_11 hq163_12 hq163_13 hq163_14 hq163_15 f218 ((by decide) : 0 < (1 : Int32).toInt ∧ (1 : Int32).toInt < 20) hn1 (own_pkl hn1 : (own_pk a1_ b1_ g1_ d1_ n1_).length = n1_.toNatClampNeg) own_T00 g152 g185 g197 g209 ne184 ne196 ne208 hq163_3 hq163_4 hq163_5 ne140 ne171 ne189 ne201 ne142 ne173 ne190 ne202 ne136 ne167 ne187 ne199 f219 f220) hZ wo144 wo123 (by decide) (by decide)) q221a q221c (g := (mkF m 242 #[iv p0_0, iv p0_1, iv p0_2, iv p0_3, iv p0_4, iv p0_5, iv a1_, iv b1_, iv g1_, iv d1_, iv a2_, iv b2_, iv g2_, iv d2_, iv n1_, iv n2_, iv i1_, iv i2_, rv r_1, rv r_6, iv x0_, iv x1_, rv r_28, rv r_113, rv b134, .unset, .unset, .unset, .unset] [(.ref r_1), .null, (.ref r_28), (.ref b134)])) rfl (by rw [hml]; rfl) (Steps.refl _) (argsL := [(.ref r_28), .null, (.ref r_1)]) (rest := []) (lenOf pd_22 rfl) rfl (by show 2 * 0 + _ ≤ _; exact Nat.le_of_eq rfl) (hb hby at_242) (fun _ _ => ⟨rfl, rfl, (by decide : 17 + 0 ≤ _), (by decide : 158 + 0 ≤ _)⟩)
  dsimp only [Pt.U, Pt.locs, Pt.cells, Pt.slots] at X221 l221 y221 z221 st221 hQ221
  rw [l221, y221, z221] at X221
  obtain ⟨SL2_221, RL2_221, rfl, N221q, K221q, hq221_0, hq221_1, hq221_2, hq221_3, hq221_4, hq221_5, hq221_6, hq221_7, hq221_8, hq221_9, hq221_10⟩ := hQ221
  have N223 := Fr.app N165 N221q
  have K224 : Keep h0 T221.heap [] := (K211).trans K221q (allS (P := fun x => x ∈ [] ∨ h0.size ≤ x) (Or.inr bz154) (allS (P := fun x => x ∈ [] ∨ h0.size ≤ x) (Or.inr bz186) (allS (P := fun x => x ∈ [] ∨ h0.size ≤ x) (Or.inr bz198) (allS (P := fun x => x ∈ [] ∨ h0.size ≤ x) (Or.inr bz210) all0))))
  have f225 : Fld Z T221.heap b134 "com/example/arbiter/arbiter/OrdinalTable" "used" "I" (.int (((((2 : Int32) + n1_) + 1) + 1) + 1)) := hq221_7
  obtain ⟨u2_, h_u2_⟩ : ∃ z : Int32, z = (((((2 : Int32) + n1_) + 1) + 1) + 1) := ⟨_, rfl⟩
  have f226 : Fld Z T221.heap b134 "com/example/arbiter/arbiter/OrdinalTable" "used" "I" (.int u2_) := by rw [h_u2_]; exact f225
  have hu2 : u2_.toInt = (1 : Int32).toInt + 4 + n1_.toInt := by rw [h_u2_]; exact (own_bd (u := 1) (by decide) hn1).2.2.2.2
  have hu2r : 0 < u2_.toInt ∧ u2_.toInt < 20 := by rw [hu2, own_one1]; omega
  have f227 := (f212.keep K221q (allS g152 (allS g185 (allS g197 (allS g209 all0)))))
  have f228 := ((f176.keep K163q).keep K221q)
  have f229 := ((((hV89.keep K113q nin0).ext E134).keep K163q (ninS ne146 nin0)).keep K221q (ninS ne146 (ninS ne177 (ninS ne192 (ninS ne204 nin0)))))
  have f230 := ((((hC89.keep K113q nin0).ext E134).keep K163q (ninS ne146 nin0)).keep K221q (ninS ne146 (ninS ne177 (ninS ne192 (ninS ne204 nin0)))))
  have f231 := ((f180.keep K163q (ninS ne150 nin0)).keep K221q (ninS ne150 (ninS ne181 (ninS ne194 (ninS ne206 nin0)))))
  have f232 := (f217.keep K221q)
  have f233 := ((f168.keep K163q (ninS ne138 nin0)).keep K221q (ninS ne138 (ninS ne169 (ninS ne188 (ninS ne200 nin0)))))
  have f234 := ((f182.keep K163q).keep K221q)
  have f235 := (((hq113_2.ext E134).keep K163q (ninS ne151 nin0)).keep K221q (ninS ne151 (ninS ne183 (ninS ne195 (ninS ne207 nin0)))))
  have f237 := (Nat.le_trans f222 K221q.1)
  obtain ⟨cq236, kq236, q236a, q236b, q236c⟩ := isOf hZ rfl f232
  obtain ⟨_, _, ⟨T236, L236, k236, n236⟩, -, X236, ⟨Lc236, hQ236, l236, y236, z236⟩, st236⟩ := X221.virtualBack hx (y := MN28) (z := MN28) hown (mvT hZ wo140) (mvT hZ wo141) (notFace_of_selects (args := #[]) (mvT hZ wo143)) (mvT hZ wo143) (mvT hZ wo142) (by decide) (backOf (W := 0) (pn_2 l Z a0 hw [] b134 sl_163 va_163 re_163 SL2_221 RL2_221 p0_0 u2_ r_6 (own_pk a2_ b2_ g2_ d2_ n2_) n2_ (own_hash p0_0 (1 : Int32) x0_) (1 : Int32) n1_ (own_pk a1_ b1_ g1_ d1_ n1_) x0_ r_113 b40 t89 x0_ x1_ cs fm (T221.heap) n0 f237 f227 pS_COMPAC hcs pS_SIOOBE rfm f228 f229 f230 f231 ((own_two hc0.1 hc1.1) : ∀ c ∈ ([x0_, x1_] : List Int32), ¬ c < 0 ∧ ¬ (255 : Int32) < c) f232 hq221_0 hq221_1 hq221_2 hq221_3 hq221_4 hq221_5 hq221_6 f226 hq221_8 hq221_9 f233 hu2r hn2 (own_pkl hn2 : (own_pk a2_ b2_ g2_ d2_ n2_).length = n2_.toNatClampNeg) hq221_10 ((by decide) : 0 < (1 : Int32).toInt ∧ (1 : Int32).toInt < 20) hn1 hu2 g152 g185 g197 g209 ne184 ne196 ne208 hq163_3 hq163_4 hq163_5 ne146 ne177 ne192 ne204 ne150 ne181 ne194 ne206 ne138 ne169 ne188 ne200 f234 f235) hZ wo144 wo123 (by decide) (by decide)) q236a q236c (g := (mkF m 252 #[iv p0_0, iv p0_1, iv p0_2, iv p0_3, iv p0_4, iv p0_5, iv a1_, iv b1_, iv g1_, iv d1_, iv a2_, iv b2_, iv g2_, iv d2_, iv n1_, iv n2_, iv i1_, iv i2_, rv r_1, rv r_6, iv x0_, iv x1_, rv r_28, rv r_113, rv b134, .unset, .unset, .unset, .unset] [(.ref r_6), .null, (.ref r_113), (.ref b134)])) rfl (by rw [hml]; rfl) (Steps.refl _) (argsL := [(.ref r_113), .null, (.ref r_6)]) (rest := []) (lenOf pd_22 rfl) rfl (by show 2 * 0 + _ ≤ _; exact Nat.le_of_eq rfl) (hb hby at_252) (fun _ _ => ⟨rfl, rfl, (by decide : 17 + 0 ≤ _), (by decide : 158 + 0 ≤ _)⟩)
  dsimp only [Pt.U, Pt.locs, Pt.cells, Pt.slots] at X236 l236 y236 z236 st236 hQ236
  rw [l236, y236, z236] at X236
  obtain ⟨SL2_236, RL2_236, rfl, N236q, K236q, hq236_0, hq236_1, hq236_2, hq236_3, hq236_4, hq236_5, hq236_6, hq236_7, hq236_8, hq236_9, hq236_10⟩ := hQ236
  have N238 := Fr.app N223 N236q
  have K239 : Keep h0 T236.heap [] := (K224).trans K236q (allS (P := fun x => x ∈ [] ∨ h0.size ≤ x) (Or.inr bz154) (allS (P := fun x => x ∈ [] ∨ h0.size ≤ x) (Or.inr bz186) (allS (P := fun x => x ∈ [] ∨ h0.size ≤ x) (Or.inr bz198) (allS (P := fun x => x ∈ [] ∨ h0.size ≤ x) (Or.inr bz210) all0))))
  have f240 := (f227.keep K236q (allS g152 (allS g185 (allS g197 (allS g209 all0)))))
  have f241 := ((f213.keep K221q).keep K236q)
  have f242 := ((f214.keep K221q (ninS ne140 (ninS ne171 (ninS ne189 (ninS ne201 nin0))))).keep K236q (ninS ne140 (ninS ne171 (ninS ne189 (ninS ne201 nin0)))))
  have f243 := ((f215.keep K221q (ninS ne140 (ninS ne171 (ninS ne189 (ninS ne201 nin0))))).keep K236q (ninS ne140 (ninS ne171 (ninS ne189 (ninS ne201 nin0)))))
  have f244 := ((f216.keep K221q (ninS ne142 (ninS ne173 (ninS ne190 (ninS ne202 nin0))))).keep K236q (ninS ne142 (ninS ne173 (ninS ne190 (ninS ne202 nin0)))))
  have f245 := (f232.keep K236q)
  have f246 := ((f219.keep K221q).keep K236q)
  have f247 := ((f220.keep K221q (ninS ne144 (ninS ne175 (ninS ne191 (ninS ne203 nin0))))).keep K236q (ninS ne144 (ninS ne175 (ninS ne191 (ninS ne203 nin0)))))
  have f249 := (Nat.le_trans f237 K236q.1)
  obtain ⟨cq248, kq248, q248a, q248b, q248c⟩ := isOf hZ rfl f245
  obtain ⟨_, _, ⟨T248, L248, k248, n248⟩, -, X248, ⟨Lc248, hQ248, l248, y248, z248⟩, st248⟩ := X236.virtualBack hx (y := MN40) (z := MN40) hown (mvT hZ wo199) (mvT hZ wo200) (notFace_of_selects (args := #[]) (mvT hZ wo202)) (mvT hZ wo202) (mvT hZ wo201) (by decide) (backOf (W := 0) (fn_1 l Z a0 hw [] b134 sl_163 va_163 re_163 SL2_236 RL2_236 p0_0 (1 : Int32) n1_ (own_pk a1_ b1_ g1_ d1_ n1_) (own_hash p0_0 (2 : Int32) (x0_ ||| (x1_ <<< ((16 : Int32) &&& 31)))) u2_ n2_ (own_pk a2_ b2_ g2_ d2_ n2_) (x0_ ||| (x1_ <<< ((16 : Int32) &&& 31))) r_28 r_14 b_14 x0_ cs fm (T236.heap) n0 f249 f240 pS_COMPAC hcs pS_SIOOBE rfm f241 f242 f243 f244 ((own_one hc0.1) : ∀ c ∈ ([x0_] : List Int32), ¬ c < 0 ∧ ¬ (255 : Int32) < c) f245 hq236_0 hq236_1 hq236_2 hq236_3 hq236_4 hq236_5 hq236_6 hq236_10 ((by decide) : 0 < (1 : Int32).toInt ∧ (1 : Int32).toInt < 20) hn1 f246 f247) hZ wo203 wo123 (by decide) (by decide)) q248a q248c (g := (mkF m 259 #[iv p0_0, iv p0_1, iv p0_2, iv p0_3, iv p0_4, iv p0_5, iv a1_, iv b1_, iv g1_, iv d1_, iv a2_, iv b2_, iv g2_, iv d2_, iv n1_, iv n2_, iv i1_, iv i2_, rv r_1, rv r_6, iv x0_, iv x1_, rv r_28, rv r_113, rv b134, .unset, .unset, .unset, .unset] [(.ref r_28), (.ref b134)])) rfl (by rw [hml]; rfl) (Steps.refl _) (argsL := [(.ref r_28)]) (rest := []) (lenOf pd_21 rfl) rfl (by show 2 * 0 + _ ≤ _; exact Nat.le_of_eq rfl) (hb hby at_259) (fun _ _ => ⟨rfl, rfl, (by decide : 17 + 0 ≤ _), (by decide : 158 + 0 ≤ _)⟩)
  dsimp only [Pt.U, Pt.locs, Pt.cells, Pt.slots] at X248 l248 y248 z248 st248 hQ248
  rw [l248, y248, z248] at X248
  obtain ⟨rfl, N248q, K248q⟩ := hQ248
  have N250 := Fr.app N238 N248q
  have f251 := (f228.keep K236q)
  have f252 := (f229.keep K236q (ninS ne146 (ninS ne177 (ninS ne192 (ninS ne204 nin0)))))
  have f253 := (f230.keep K236q (ninS ne146 (ninS ne177 (ninS ne192 (ninS ne204 nin0)))))
  have f254 := (f231.keep K236q (ninS ne150 (ninS ne181 (ninS ne194 (ninS ne206 nin0)))))
  have f255 := (f234.keep K236q)
  have f256 := (f235.keep K236q (ninS ne151 (ninS ne183 (ninS ne195 (ninS ne207 nin0)))))
  obtain ⟨cq257, kq257, q257a, q257b, q257c⟩ := isOf hZ K248q f245
  obtain ⟨_, _, ⟨T257, L257, k257, n257⟩, -, X257, ⟨Lc257, hQ257, l257, y257, z257⟩, st257⟩ := X248.virtualBack hx (y := MN40) (z := MN40) hown (mvT hZ wo199) (mvT hZ wo200) (notFace_of_selects (args := #[]) (mvT hZ wo202)) (mvT hZ wo202) (mvT hZ wo201) (by decide) (backOf (W := 0) (fn_2 l Z a0 hw [] b134 sl_163 va_163 re_163 SL2_236 RL2_236 p0_0 (own_hash p0_0 (1 : Int32) x0_) (1 : Int32) n1_ (own_pk a1_ b1_ g1_ d1_ n1_) x0_ u2_ n2_ (own_pk a2_ b2_ g2_ d2_ n2_) r_113 b40 t89 x0_ x1_ cs fm (T236.heap) n0 f249 f240 pS_COMPAC hcs pS_SIOOBE rfm f251 f252 f253 f254 ((own_two hc0.1 hc1.1) : ∀ c ∈ ([x0_, x1_] : List Int32), ¬ c < 0 ∧ ¬ (255 : Int32) < c) f245 hq236_0 hq236_1 hq236_2 hq236_3 hq236_4 hq236_5 hq236_6 hq236_10 ((by decide) : 0 < (1 : Int32).toInt ∧ (1 : Int32).toInt < 20) hn1 hu2r hn2 f255 f256) hZ wo203 wo123 (by decide) (by decide)) q257a q257c (g := (mkF m 268 #[iv p0_0, iv p0_1, iv p0_2, iv p0_3, iv p0_4, iv p0_5, iv a1_, iv b1_, iv g1_, iv d1_, iv a2_, iv b2_, iv g2_, iv d2_, iv n1_, iv n2_, iv i1_, iv i2_, rv r_1, rv r_6, iv x0_, iv x1_, rv r_28, rv r_113, rv b134, iv ((own_hash p0_0 (1 : Int32) x0_) &&& 7), .unset, .unset, .unset] [(.ref r_113), (.ref b134)])) rfl (by rw [hml]; rfl) (Steps.refl _) (argsL := [(.ref r_113)]) (rest := []) (lenOf pd_21 rfl) rfl (by show 2 * 0 + _ ≤ _; exact Nat.le_of_eq rfl) (hb hby at_268) (fun _ _ => ⟨rfl, K248q, (by decide : 17 + 0 ≤ _), (by decide : 158 + 0 ≤ _)⟩)
  dsimp only [Pt.U, Pt.locs, Pt.cells, Pt.slots] at X257 l257 y257 z257 st257 hQ257
  rw [l257, y257, z257] at X257
  obtain ⟨rfl, N257q, K257q⟩ := hQ257
  have N258 := Fr.app N250 N257q
  obtain ⟨_, _, ⟨T259, L259, k259, n259⟩, -, X259, ⟨Lc259, hQ259, l259, y259, z259⟩, st259⟩ := Jvm.LawKit.callS X257 hx (y := MN44) hown (mvT hZ wo216) (mvT hZ wo217) (mvT hZ wo4) (mvT hZ wo218) (by decide) (backOf (W := 0) (rm44 l Z a0 hw [] a1_ b1_ g1_ d1_ i1_ (T236.heap) n0 f249 ) hZ wo218 wo4 (by decide) (by decide)) (g := (mkF m 283 #[iv p0_0, iv p0_1, iv p0_2, iv p0_3, iv p0_4, iv p0_5, iv a1_, iv b1_, iv g1_, iv d1_, iv a2_, iv b2_, iv g2_, iv d2_, iv n1_, iv n2_, iv i1_, iv i2_, rv r_1, rv r_6, iv x0_, iv x1_, rv r_28, rv r_113, rv b134, iv ((own_hash p0_0 (1 : Int32) x0_) &&& 7), iv (own_sl2 (own_hash p0_0 (2 : Int32) (x0_ ||| (x1_ <<< ((16 : Int32) &&& 31)))) ((own_hash p0_0 (1 : Int32) x0_) &&& 7)), .unset, .unset] [(.int i1_), (.int d1_), (.int g1_), (.int b1_), (.int a1_)])) rfl (by rw [hml]; rfl) (argsL := [(.int a1_), (.int b1_), (.int g1_), (.int d1_), (.int i1_)]) (rest := []) (lenOf pd_14 rfl) rfl (by show 2 * 0 + _ ≤ _; exact Nat.le_of_eq rfl) (hb hby at_283) (fun _ _ => ⟨rfl, K257q, (by decide : 17 + 0 ≤ _), (by decide : 158 + 0 ≤ _)⟩)
  dsimp only [Pt.U, Pt.locs, Pt.cells, Pt.slots] at X259 l259 y259 z259 st259 hQ259
  rw [l259, y259, z259] at X259
  obtain ⟨rfl, N259q, K259q⟩ := hQ259
  have N260 := Fr.app N258 N259q
  obtain ⟨_, _, ⟨T261, L261, k261, n261⟩, -, X261, ⟨Lc261, hQ261, l261, y261, z261⟩, st261⟩ := Jvm.LawKit.callS X259 hx (y := MN44) hown (mvT hZ wo216) (mvT hZ wo217) (mvT hZ wo4) (mvT hZ wo218) (by decide) (backOf (W := 0) (rm44 l Z a0 hw [] a2_ b2_ g2_ d2_ i2_ (T236.heap) n0 f249 ) hZ wo218 wo4 (by decide) (by decide)) (g := (mkF m 298 #[iv p0_0, iv p0_1, iv p0_2, iv p0_3, iv p0_4, iv p0_5, iv a1_, iv b1_, iv g1_, iv d1_, iv a2_, iv b2_, iv g2_, iv d2_, iv n1_, iv n2_, iv i1_, iv i2_, rv r_1, rv r_6, iv x0_, iv x1_, rv r_28, rv r_113, rv b134, iv ((own_hash p0_0 (1 : Int32) x0_) &&& 7), iv (own_sl2 (own_hash p0_0 (2 : Int32) (x0_ ||| (x1_ <<< ((16 : Int32) &&& 31)))) ((own_hash p0_0 (1 : Int32) x0_) &&& 7)), iv (own_at a1_ b1_ g1_ d1_ i1_), .unset] [(.int i2_), (.int d2_), (.int g2_), (.int b2_), (.int a2_)])) rfl (by rw [hml]; rfl) (argsL := [(.int a2_), (.int b2_), (.int g2_), (.int d2_), (.int i2_)]) (rest := []) (lenOf pd_14 rfl) rfl (by show 2 * 0 + _ ≤ _; exact Nat.le_of_eq rfl) (hb hby at_298) (fun _ _ => ⟨rfl, K259q, (by decide : 17 + 0 ≤ _), (by decide : 158 + 0 ≤ _)⟩)
  dsimp only [Pt.U, Pt.locs, Pt.cells, Pt.slots] at X261 l261 y261 z261 st261 hQ261
  rw [l261, y261, z261] at X261
  obtain ⟨rfl, N261q, K261q⟩ := hQ261
  have N262 := Fr.app N260 N261q
  obtain ⟨cq263, kq263, q263a, q263b, q263c⟩ := isOf hZ K261q f245
  obtain ⟨_, _, ⟨T263, L263, k263, n263⟩, -, X263, ⟨Lc263, hQ263, l263, y263, z263⟩, st263⟩ := X261.virtualBack hx (y := MN45) (z := MN45) hown (mvT hZ wo219) (mvT hZ wo220) (notFace_of_selects (args := #[]) (mvT hZ wo222)) (mvT hZ wo222) (mvT hZ wo221) (by decide) (backOf (W := 0) (or_ l Z a0 hw [] b134 sl_163 va_163 re_163 SL2_236 RL2_236 ((own_hash p0_0 (1 : Int32) x0_) &&& 7) i1_ (1 : Int32) n1_ (own_pk a1_ b1_ g1_ d1_ n1_) (1 : Int32) x0_ (T236.heap) n0 f249 f245 hq236_0 hq236_1 hq236_2 hq236_3 hq236_4 hq236_5 ((own_m7 _) : 0 ≤ ((own_hash p0_0 (1 : Int32) x0_) &&& 7).toInt ∧ ((own_hash p0_0 (1 : Int32) x0_) &&& 7).toInt < 8) hq236_10.2.2.2.1 hq236_10.2.2.2.2.1 ((by decide) : 0 < (1 : Int32).toInt ∧ (1 : Int32).toInt < 20) hn1 hi1) hZ wo223 wo123 (by decide) (by decide)) q263a q263c (g := (mkF m 309 #[iv p0_0, iv p0_1, iv p0_2, iv p0_3, iv p0_4, iv p0_5, iv a1_, iv b1_, iv g1_, iv d1_, iv a2_, iv b2_, iv g2_, iv d2_, iv n1_, iv n2_, iv i1_, iv i2_, rv r_1, rv r_6, iv x0_, iv x1_, rv r_28, rv r_113, rv b134, iv ((own_hash p0_0 (1 : Int32) x0_) &&& 7), iv (own_sl2 (own_hash p0_0 (2 : Int32) (x0_ ||| (x1_ <<< ((16 : Int32) &&& 31)))) ((own_hash p0_0 (1 : Int32) x0_) &&& 7)), iv (own_at a1_ b1_ g1_ d1_ i1_), iv (own_at a2_ b2_ g2_ d2_ i2_)] [(.int i1_), (.int ((own_hash p0_0 (1 : Int32) x0_) &&& 7)), (.ref b134)])) rfl (by rw [hml]; rfl) (Steps.refl _) (argsL := [(.int ((own_hash p0_0 (1 : Int32) x0_) &&& 7)), (.int i1_)]) (rest := []) (lenOf pd_11 rfl) rfl (by show 2 * 0 + _ ≤ _; exact Nat.le_of_eq rfl) (hb hby at_309) (fun _ _ => ⟨rfl, K261q, (by decide : 17 + 0 ≤ _), (by decide : 158 + 0 ≤ _)⟩)
  dsimp only [Pt.U, Pt.locs, Pt.cells, Pt.slots] at X263 l263 y263 z263 st263 hQ263
  rw [l263, y263, z263] at X263
  obtain ⟨rfl, N263q, K263q⟩ := hQ263
  have N264 := Fr.app N262 N263q
  have hc265 : (own_g (own_pk a1_ b1_ g1_ d1_ n1_) i1_) = (own_at a1_ b1_ g1_ d1_ i1_) := own_pka hn1 hi1.1 hi1.2
  obtain ⟨cq266, kq266, q266a, q266b, q266c⟩ := isOf hZ K263q f245
  obtain ⟨_, _, ⟨T266, L266, k266, n266⟩, -, X266, ⟨Lc266, hQ266, l266, y266, z266⟩, st266⟩ := X263.virtualBack hx (y := MN45) (z := MN45) hown (mvT hZ wo219) (mvT hZ wo220) (notFace_of_selects (args := #[]) (mvT hZ wo222)) (mvT hZ wo222) (mvT hZ wo221) (by decide) (backOf (W := 0) (or_ l Z a0 hw [] b134 sl_163 va_163 re_163 SL2_236 RL2_236 (own_sl2 (own_hash p0_0 (2 : Int32) (x0_ ||| (x1_ <<< ((16 : Int32) &&& 31)))) ((own_hash p0_0 (1 : Int32) x0_) &&& 7)) i2_ u2_ n2_ (own_pk a2_ b2_ g2_ d2_ n2_) (2 : Int32) (x0_ ||| (x1_ <<< ((16 : Int32) &&& 31))) (T236.heap) n0 f249 f245 hq236_0 hq236_1 hq236_2 hq236_3 hq236_4 hq236_5 ((own_sl2r _ _) : 0 ≤ (own_sl2 (own_hash p0_0 (2 : Int32) (x0_ ||| (x1_ <<< ((16 : Int32) &&& 31)))) ((own_hash p0_0 (1 : Int32) x0_) &&& 7)).toInt ∧ (own_sl2 (own_hash p0_0 (2 : Int32) (x0_ ||| (x1_ <<< ((16 : Int32) &&& 31)))) ((own_hash p0_0 (1 : Int32) x0_) &&& 7)).toInt < 8) hq236_10.2.2.2.2.2.2.1 hq236_10.2.2.2.2.2.2.2 hu2r hn2 hi2) hZ wo223 wo123 (by decide) (by decide)) q266a q266c (g := (mkF m 323 #[iv p0_0, iv p0_1, iv p0_2, iv p0_3, iv p0_4, iv p0_5, iv a1_, iv b1_, iv g1_, iv d1_, iv a2_, iv b2_, iv g2_, iv d2_, iv n1_, iv n2_, iv i1_, iv i2_, rv r_1, rv r_6, iv x0_, iv x1_, rv r_28, rv r_113, rv b134, iv ((own_hash p0_0 (1 : Int32) x0_) &&& 7), iv (own_sl2 (own_hash p0_0 (2 : Int32) (x0_ ||| (x1_ <<< ((16 : Int32) &&& 31)))) ((own_hash p0_0 (1 : Int32) x0_) &&& 7)), iv (own_at a1_ b1_ g1_ d1_ i1_), iv (own_at a2_ b2_ g2_ d2_ i2_)] [(.int i2_), (.int (own_sl2 (own_hash p0_0 (2 : Int32) (x0_ ||| (x1_ <<< ((16 : Int32) &&& 31)))) ((own_hash p0_0 (1 : Int32) x0_) &&& 7))), (.ref b134)])) rfl (by rw [hml]; rfl) (Steps.refl _) (argsL := [(.int (own_sl2 (own_hash p0_0 (2 : Int32) (x0_ ||| (x1_ <<< ((16 : Int32) &&& 31)))) ((own_hash p0_0 (1 : Int32) x0_) &&& 7))), (.int i2_)]) (rest := []) (lenOf pd_11 rfl) rfl (by show 2 * 0 + _ ≤ _; exact Nat.le_of_eq rfl) (hb hby at_323) (fun _ _ => ⟨rfl, K263q, (by decide : 17 + 0 ≤ _), (by decide : 158 + 0 ≤ _)⟩)
  dsimp only [Pt.U, Pt.locs, Pt.cells, Pt.slots] at X266 l266 y266 z266 st266 hQ266
  rw [l266, y266, z266] at X266
  obtain ⟨rfl, N266q, K266q⟩ := hQ266
  have N267 := Fr.app N264 N266q
  have hc268 : (own_g (own_pk a2_ b2_ g2_ d2_ n2_) i2_) = (own_at a2_ b2_ g2_ d2_ i2_) := own_pka hn2 hi2.1 hi2.2
  have f269 := (Nat.le_trans (Nat.le_trans (Nat.le_trans (Nat.le_trans (Nat.le_refl T113.heap.size) E134.1) K163q.1) K221q.1) K236q.1)
  obtain ⟨fs, hr, hrun, hended, -, hW1, hW2, hW3⟩ := X266.leaveW S113 (by rw [K266q]; exact f269) (v := some (.int 1)) (fun h => by rw [Bd.returns] at h; cases h)
  refine ⟨_, _, pre0 _ ?_, hrun, hended, _, _, rfl, ?_, hW1, hW2, hW3.mono (by decide) (by decide)⟩
  · show Steps _ _ _ (State.setTop _ (mkF m 0 #[iv p0_0, iv p0_1, iv p0_2, iv p0_3, iv p0_4, iv p0_5, .unset, .unset, .unset, .unset, .unset, .unset, .unset, .unset, .unset, .unset, .unset, .unset, .unset, .unset, .unset, .unset, .unset, .unset, .unset, .unset, .unset, .unset, .unset] [])) _
    refine XS.iloadN X0.here hx rfl (hb hby at_0) rfl ?_
    show Steps _ _ _ (State.setTop _ (mkF m 1 #[iv p0_0, iv p0_1, iv p0_2, iv p0_3, iv p0_4, iv p0_5, .unset, .unset, .unset, .unset, .unset, .unset, .unset, .unset, .unset, .unset, .unset, .unset, .unset, .unset, .unset, .unset, .unset, .unset, .unset, .unset, .unset, .unset, .unset] [(.int p0_1)])) _
    refine XS.iconst X0.here hx rfl (hb hby at_1) ?_
    refine XS.ishr X0.here hx rfl (hb hby at_2) rfl ?_
    refine XS.istore X0.here hx rfl (hb hby at_3) rfl (l' := #[iv p0_0, iv p0_1, iv p0_2, iv p0_3, iv p0_4, iv p0_5, iv (p0_1 >>> ((2 : Int32) &&& 31)), .unset, .unset, .unset, .unset, .unset, .unset, .unset, .unset, .unset, .unset, .unset, .unset, .unset, .unset, .unset, .unset, .unset, .unset, .unset, .unset, .unset, .unset]) rfl ?_
    show Steps _ _ _ (State.setTop _ (mkF m 5 #[iv p0_0, iv p0_1, iv p0_2, iv p0_3, iv p0_4, iv p0_5, iv (p0_1 >>> ((2 : Int32) &&& 31)), .unset, .unset, .unset, .unset, .unset, .unset, .unset, .unset, .unset, .unset, .unset, .unset, .unset, .unset, .unset, .unset, .unset, .unset, .unset, .unset, .unset, .unset] [])) _
    rw [← h_a1_]
    show Steps _ _ _ (State.setTop _ (mkF m 5 #[iv p0_0, iv p0_1, iv p0_2, iv p0_3, iv p0_4, iv p0_5, iv a1_, .unset, .unset, .unset, .unset, .unset, .unset, .unset, .unset, .unset, .unset, .unset, .unset, .unset, .unset, .unset, .unset, .unset, .unset, .unset, .unset, .unset, .unset] [])) _
    show Steps _ _ _ (State.setTop _ (mkF m 5 #[iv p0_0, iv p0_1, iv p0_2, iv p0_3, iv p0_4, iv p0_5, iv a1_, .unset, .unset, .unset, .unset, .unset, .unset, .unset, .unset, .unset, .unset, .unset, .unset, .unset, .unset, .unset, .unset, .unset, .unset, .unset, .unset, .unset, .unset] [])) _
    refine XS.iload X0.here hx rfl (hb hby at_5) rfl ?_
    refine XS.iconst X0.here hx rfl (hb hby at_7) ?_
    refine XS.iadd X0.here hx rfl (hb hby at_8) rfl ?_
    refine XS.iloadN X0.here hx rfl (hb hby at_9) rfl ?_
    show Steps _ _ _ (State.setTop _ (mkF m 10 #[iv p0_0, iv p0_1, iv p0_2, iv p0_3, iv p0_4, iv p0_5, iv a1_, .unset, .unset, .unset, .unset, .unset, .unset, .unset, .unset, .unset, .unset, .unset, .unset, .unset, .unset, .unset, .unset, .unset, .unset, .unset, .unset, .unset, .unset] [(.int p0_2), (.int (a1_ + 1))])) _
    refine X0.ldcInt hx hown28 (mvT hZ28 wo0) (g := (mkF m 10 #[iv p0_0, iv p0_1, iv p0_2, iv p0_3, iv p0_4, iv p0_5, iv a1_, .unset, .unset, .unset, .unset, .unset, .unset, .unset, .unset, .unset, .unset, .unset, .unset, .unset, .unset, .unset, .unset, .unset, .unset, .unset, .unset, .unset, .unset] [(.int p0_2), (.int (a1_ + 1))])) rfl (hb hby at_10) _ ?_
    refine XS.iand X0.here hx rfl (hb hby at_12) rfl ?_
    refine XS.iadd X0.here hx rfl (hb hby at_13) rfl ?_
    refine XS.istore X0.here hx rfl (hb hby at_14) rfl (l' := #[iv p0_0, iv p0_1, iv p0_2, iv p0_3, iv p0_4, iv p0_5, iv a1_, iv ((a1_ + 1) + (p0_2 &&& 65535)), .unset, .unset, .unset, .unset, .unset, .unset, .unset, .unset, .unset, .unset, .unset, .unset, .unset, .unset, .unset, .unset, .unset, .unset, .unset, .unset, .unset]) rfl ?_
    show Steps _ _ _ (State.setTop _ (mkF m 16 #[iv p0_0, iv p0_1, iv p0_2, iv p0_3, iv p0_4, iv p0_5, iv a1_, iv ((a1_ + 1) + (p0_2 &&& 65535)), .unset, .unset, .unset, .unset, .unset, .unset, .unset, .unset, .unset, .unset, .unset, .unset, .unset, .unset, .unset, .unset, .unset, .unset, .unset, .unset, .unset] [])) _
    rw [← h_b1_]
    show Steps _ _ _ (State.setTop _ (mkF m 16 #[iv p0_0, iv p0_1, iv p0_2, iv p0_3, iv p0_4, iv p0_5, iv a1_, iv b1_, .unset, .unset, .unset, .unset, .unset, .unset, .unset, .unset, .unset, .unset, .unset, .unset, .unset, .unset, .unset, .unset, .unset, .unset, .unset, .unset, .unset] [])) _
    show Steps _ _ _ (State.setTop _ (mkF m 16 #[iv p0_0, iv p0_1, iv p0_2, iv p0_3, iv p0_4, iv p0_5, iv a1_, iv b1_, .unset, .unset, .unset, .unset, .unset, .unset, .unset, .unset, .unset, .unset, .unset, .unset, .unset, .unset, .unset, .unset, .unset, .unset, .unset, .unset, .unset] [])) _
    refine XS.iload X0.here hx rfl (hb hby at_16) rfl ?_
    refine XS.iconst X0.here hx rfl (hb hby at_18) ?_
    refine XS.iadd X0.here hx rfl (hb hby at_19) rfl ?_
    show Steps _ _ _ (State.setTop _ (mkF m 20 #[iv p0_0, iv p0_1, iv p0_2, iv p0_3, iv p0_4, iv p0_5, iv a1_, iv b1_, .unset, .unset, .unset, .unset, .unset, .unset, .unset, .unset, .unset, .unset, .unset, .unset, .unset, .unset, .unset, .unset, .unset, .unset, .unset, .unset, .unset] [(.int (b1_ + 1))])) _
    refine XS.iloadN X0.here hx rfl (hb hby at_20) rfl ?_
    refine XS.bipush X0.here hx rfl (hb hby at_21) ?_
    refine XS.iushr X0.here hx rfl (hb hby at_23) rfl ?_
    refine XS.iadd X0.here hx rfl (hb hby at_24) rfl ?_
    refine XS.istore X0.here hx rfl (hb hby at_25) rfl (l' := #[iv p0_0, iv p0_1, iv p0_2, iv p0_3, iv p0_4, iv p0_5, iv a1_, iv b1_, iv ((b1_ + 1) + ((p0_2.toUInt32 >>> ((16 : Int32) &&& 31).toUInt32).toInt32)), .unset, .unset, .unset, .unset, .unset, .unset, .unset, .unset, .unset, .unset, .unset, .unset, .unset, .unset, .unset, .unset, .unset, .unset, .unset, .unset]) rfl ?_
    show Steps _ _ _ (State.setTop _ (mkF m 27 #[iv p0_0, iv p0_1, iv p0_2, iv p0_3, iv p0_4, iv p0_5, iv a1_, iv b1_, iv ((b1_ + 1) + ((p0_2.toUInt32 >>> ((16 : Int32) &&& 31).toUInt32).toInt32)), .unset, .unset, .unset, .unset, .unset, .unset, .unset, .unset, .unset, .unset, .unset, .unset, .unset, .unset, .unset, .unset, .unset, .unset, .unset, .unset] [])) _
    rw [← h_g1_]
    show Steps _ _ _ (State.setTop _ (mkF m 27 #[iv p0_0, iv p0_1, iv p0_2, iv p0_3, iv p0_4, iv p0_5, iv a1_, iv b1_, iv g1_, .unset, .unset, .unset, .unset, .unset, .unset, .unset, .unset, .unset, .unset, .unset, .unset, .unset, .unset, .unset, .unset, .unset, .unset, .unset, .unset] [])) _
    show Steps _ _ _ (State.setTop _ (mkF m 27 #[iv p0_0, iv p0_1, iv p0_2, iv p0_3, iv p0_4, iv p0_5, iv a1_, iv b1_, iv g1_, .unset, .unset, .unset, .unset, .unset, .unset, .unset, .unset, .unset, .unset, .unset, .unset, .unset, .unset, .unset, .unset, .unset, .unset, .unset, .unset] [])) _
    refine XS.iload X0.here hx rfl (hb hby at_27) rfl ?_
    refine XS.iconst X0.here hx rfl (hb hby at_29) ?_
    show Steps _ _ _ (State.setTop _ (mkF m 30 #[iv p0_0, iv p0_1, iv p0_2, iv p0_3, iv p0_4, iv p0_5, iv a1_, iv b1_, iv g1_, .unset, .unset, .unset, .unset, .unset, .unset, .unset, .unset, .unset, .unset, .unset, .unset, .unset, .unset, .unset, .unset, .unset, .unset, .unset, .unset] [(.int 1), (.int g1_)])) _
    refine XS.iadd X0.here hx rfl (hb hby at_30) rfl ?_
    refine XS.iloadN X0.here hx rfl (hb hby at_31) rfl ?_
    refine X0.ldcInt hx hown28 (mvT hZ28 wo1) (g := (mkF m 32 #[iv p0_0, iv p0_1, iv p0_2, iv p0_3, iv p0_4, iv p0_5, iv a1_, iv b1_, iv g1_, .unset, .unset, .unset, .unset, .unset, .unset, .unset, .unset, .unset, .unset, .unset, .unset, .unset, .unset, .unset, .unset, .unset, .unset, .unset, .unset] [(.int p0_3), (.int (g1_ + 1))])) rfl (hb hby at_32) _ ?_
    refine XS.iand X0.here hx rfl (hb hby at_34) rfl ?_
    refine XS.iadd X0.here hx rfl (hb hby at_35) rfl ?_
    refine XS.istore X0.here hx rfl (hb hby at_36) rfl (l' := #[iv p0_0, iv p0_1, iv p0_2, iv p0_3, iv p0_4, iv p0_5, iv a1_, iv b1_, iv g1_, iv ((g1_ + 1) + (p0_3 &&& 1073741823)), .unset, .unset, .unset, .unset, .unset, .unset, .unset, .unset, .unset, .unset, .unset, .unset, .unset, .unset, .unset, .unset, .unset, .unset, .unset]) rfl ?_
    show Steps _ _ _ (State.setTop _ (mkF m 38 #[iv p0_0, iv p0_1, iv p0_2, iv p0_3, iv p0_4, iv p0_5, iv a1_, iv b1_, iv g1_, iv ((g1_ + 1) + (p0_3 &&& 1073741823)), .unset, .unset, .unset, .unset, .unset, .unset, .unset, .unset, .unset, .unset, .unset, .unset, .unset, .unset, .unset, .unset, .unset, .unset, .unset] [])) _
    rw [← h_d1_]
    show Steps _ _ _ (State.setTop _ (mkF m 38 #[iv p0_0, iv p0_1, iv p0_2, iv p0_3, iv p0_4, iv p0_5, iv a1_, iv b1_, iv g1_, iv d1_, .unset, .unset, .unset, .unset, .unset, .unset, .unset, .unset, .unset, .unset, .unset, .unset, .unset, .unset, .unset, .unset, .unset, .unset, .unset] [])) _
    show Steps _ _ _ (State.setTop _ (mkF m 38 #[iv p0_0, iv p0_1, iv p0_2, iv p0_3, iv p0_4, iv p0_5, iv a1_, iv b1_, iv g1_, iv d1_, .unset, .unset, .unset, .unset, .unset, .unset, .unset, .unset, .unset, .unset, .unset, .unset, .unset, .unset, .unset, .unset, .unset, .unset, .unset] [])) _
    refine XS.iload X0.here hx rfl (hb hby at_38) rfl ?_
    show Steps _ _ _ (State.setTop _ (mkF m 40 #[iv p0_0, iv p0_1, iv p0_2, iv p0_3, iv p0_4, iv p0_5, iv a1_, iv b1_, iv g1_, iv d1_, .unset, .unset, .unset, .unset, .unset, .unset, .unset, .unset, .unset, .unset, .unset, .unset, .unset, .unset, .unset, .unset, .unset, .unset, .unset] [(.int p0_5)])) _
    refine XS.bipush X0.here hx rfl (hb hby at_40) ?_
    refine XS.ishr X0.here hx rfl (hb hby at_42) rfl ?_
    refine XS.istore X0.here hx rfl (hb hby at_43) rfl (l' := #[iv p0_0, iv p0_1, iv p0_2, iv p0_3, iv p0_4, iv p0_5, iv a1_, iv b1_, iv g1_, iv d1_, iv (p0_5 >>> ((10 : Int32) &&& 31)), .unset, .unset, .unset, .unset, .unset, .unset, .unset, .unset, .unset, .unset, .unset, .unset, .unset, .unset, .unset, .unset, .unset, .unset]) rfl ?_
    show Steps _ _ _ (State.setTop _ (mkF m 45 #[iv p0_0, iv p0_1, iv p0_2, iv p0_3, iv p0_4, iv p0_5, iv a1_, iv b1_, iv g1_, iv d1_, iv (p0_5 >>> ((10 : Int32) &&& 31)), .unset, .unset, .unset, .unset, .unset, .unset, .unset, .unset, .unset, .unset, .unset, .unset, .unset, .unset, .unset, .unset, .unset, .unset] [])) _
    rw [← h_a2_]
    show Steps _ _ _ (State.setTop _ (mkF m 45 #[iv p0_0, iv p0_1, iv p0_2, iv p0_3, iv p0_4, iv p0_5, iv a1_, iv b1_, iv g1_, iv d1_, iv a2_, .unset, .unset, .unset, .unset, .unset, .unset, .unset, .unset, .unset, .unset, .unset, .unset, .unset, .unset, .unset, .unset, .unset, .unset] [])) _
    show Steps _ _ _ (State.setTop _ (mkF m 45 #[iv p0_0, iv p0_1, iv p0_2, iv p0_3, iv p0_4, iv p0_5, iv a1_, iv b1_, iv g1_, iv d1_, iv a2_, .unset, .unset, .unset, .unset, .unset, .unset, .unset, .unset, .unset, .unset, .unset, .unset, .unset, .unset, .unset, .unset, .unset, .unset] [])) _
    refine XS.iload X0.here hx rfl (hb hby at_45) rfl ?_
    refine XS.iconst X0.here hx rfl (hb hby at_47) ?_
    refine XS.iadd X0.here hx rfl (hb hby at_48) rfl ?_
    refine XS.iload X0.here hx rfl (hb hby at_49) rfl ?_
    show Steps _ _ _ (State.setTop _ (mkF m 51 #[iv p0_0, iv p0_1, iv p0_2, iv p0_3, iv p0_4, iv p0_5, iv a1_, iv b1_, iv g1_, iv d1_, iv a2_, .unset, .unset, .unset, .unset, .unset, .unset, .unset, .unset, .unset, .unset, .unset, .unset, .unset, .unset, .unset, .unset, .unset, .unset] [(.int p0_4), (.int (a2_ + 1))])) _
    refine XS.bipush X0.here hx rfl (hb hby at_51) ?_
    refine XS.iushr X0.here hx rfl (hb hby at_53) rfl ?_
    refine XS.sipush X0.here hx rfl (hb hby at_54) ?_
    refine XS.iand X0.here hx rfl (hb hby at_57) rfl ?_
    refine XS.iadd X0.here hx rfl (hb hby at_58) rfl ?_
    refine XS.istore X0.here hx rfl (hb hby at_59) rfl (l' := #[iv p0_0, iv p0_1, iv p0_2, iv p0_3, iv p0_4, iv p0_5, iv a1_, iv b1_, iv g1_, iv d1_, iv a2_, iv ((a2_ + 1) + (((p0_4.toUInt32 >>> ((14 : Int32) &&& 31).toUInt32).toInt32) &&& 255)), .unset, .unset, .unset, .unset, .unset, .unset, .unset, .unset, .unset, .unset, .unset, .unset, .unset, .unset, .unset, .unset, .unset]) rfl ?_
    show Steps _ _ _ (State.setTop _ (mkF m 61 #[iv p0_0, iv p0_1, iv p0_2, iv p0_3, iv p0_4, iv p0_5, iv a1_, iv b1_, iv g1_, iv d1_, iv a2_, iv ((a2_ + 1) + (((p0_4.toUInt32 >>> ((14 : Int32) &&& 31).toUInt32).toInt32) &&& 255)), .unset, .unset, .unset, .unset, .unset, .unset, .unset, .unset, .unset, .unset, .unset, .unset, .unset, .unset, .unset, .unset, .unset] [])) _
    rw [← h_b2_]
    show Steps _ _ _ (State.setTop _ (mkF m 61 #[iv p0_0, iv p0_1, iv p0_2, iv p0_3, iv p0_4, iv p0_5, iv a1_, iv b1_, iv g1_, iv d1_, iv a2_, iv b2_, .unset, .unset, .unset, .unset, .unset, .unset, .unset, .unset, .unset, .unset, .unset, .unset, .unset, .unset, .unset, .unset, .unset] [])) _
    show Steps _ _ _ (State.setTop _ (mkF m 61 #[iv p0_0, iv p0_1, iv p0_2, iv p0_3, iv p0_4, iv p0_5, iv a1_, iv b1_, iv g1_, iv d1_, iv a2_, iv b2_, .unset, .unset, .unset, .unset, .unset, .unset, .unset, .unset, .unset, .unset, .unset, .unset, .unset, .unset, .unset, .unset, .unset] [])) _
    refine XS.iload X0.here hx rfl (hb hby at_61) rfl ?_
    show Steps _ _ _ (State.setTop _ (mkF m 63 #[iv p0_0, iv p0_1, iv p0_2, iv p0_3, iv p0_4, iv p0_5, iv a1_, iv b1_, iv g1_, iv d1_, iv a2_, iv b2_, .unset, .unset, .unset, .unset, .unset, .unset, .unset, .unset, .unset, .unset, .unset, .unset, .unset, .unset, .unset, .unset, .unset] [(.int b2_)])) _
    refine XS.iconst X0.here hx rfl (hb hby at_63) ?_
    refine XS.iadd X0.here hx rfl (hb hby at_64) rfl ?_
    refine XS.iload X0.here hx rfl (hb hby at_65) rfl ?_
    refine XS.bipush X0.here hx rfl (hb hby at_67) ?_
    refine XS.iushr X0.here hx rfl (hb hby at_69) rfl ?_
    refine XS.sipush X0.here hx rfl (hb hby at_70) ?_
    refine XS.iand X0.here hx rfl (hb hby at_73) rfl ?_
    refine XS.iadd X0.here hx rfl (hb hby at_74) rfl ?_
    refine XS.istore X0.here hx rfl (hb hby at_75) rfl (l' := #[iv p0_0, iv p0_1, iv p0_2, iv p0_3, iv p0_4, iv p0_5, iv a1_, iv b1_, iv g1_, iv d1_, iv a2_, iv b2_, iv ((b2_ + 1) + (((p0_4.toUInt32 >>> ((22 : Int32) &&& 31).toUInt32).toInt32) &&& 255)), .unset, .unset, .unset, .unset, .unset, .unset, .unset, .unset, .unset, .unset, .unset, .unset, .unset, .unset, .unset, .unset]) rfl ?_
    show Steps _ _ _ (State.setTop _ (mkF m 77 #[iv p0_0, iv p0_1, iv p0_2, iv p0_3, iv p0_4, iv p0_5, iv a1_, iv b1_, iv g1_, iv d1_, iv a2_, iv b2_, iv ((b2_ + 1) + (((p0_4.toUInt32 >>> ((22 : Int32) &&& 31).toUInt32).toInt32) &&& 255)), .unset, .unset, .unset, .unset, .unset, .unset, .unset, .unset, .unset, .unset, .unset, .unset, .unset, .unset, .unset, .unset] [])) _
    rw [← h_g2_]
    show Steps _ _ _ (State.setTop _ (mkF m 77 #[iv p0_0, iv p0_1, iv p0_2, iv p0_3, iv p0_4, iv p0_5, iv a1_, iv b1_, iv g1_, iv d1_, iv a2_, iv b2_, iv g2_, .unset, .unset, .unset, .unset, .unset, .unset, .unset, .unset, .unset, .unset, .unset, .unset, .unset, .unset, .unset, .unset] [])) _
    show Steps _ _ _ (State.setTop _ (mkF m 77 #[iv p0_0, iv p0_1, iv p0_2, iv p0_3, iv p0_4, iv p0_5, iv a1_, iv b1_, iv g1_, iv d1_, iv a2_, iv b2_, iv g2_, .unset, .unset, .unset, .unset, .unset, .unset, .unset, .unset, .unset, .unset, .unset, .unset, .unset, .unset, .unset, .unset] [])) _
    refine XS.iload X0.here hx rfl (hb hby at_77) rfl ?_
    refine XS.iconst X0.here hx rfl (hb hby at_79) ?_
    refine XS.iadd X0.here hx rfl (hb hby at_80) rfl ?_
    refine XS.iloadN X0.here hx rfl (hb hby at_81) rfl ?_
    refine XS.bipush X0.here hx rfl (hb hby at_82) ?_
    refine XS.iushr X0.here hx rfl (hb hby at_84) rfl ?_
    refine XS.iadd X0.here hx rfl (hb hby at_85) rfl ?_
    show Steps _ _ _ (State.setTop _ (mkF m 86 #[iv p0_0, iv p0_1, iv p0_2, iv p0_3, iv p0_4, iv p0_5, iv a1_, iv b1_, iv g1_, iv d1_, iv a2_, iv b2_, iv g2_, .unset, .unset, .unset, .unset, .unset, .unset, .unset, .unset, .unset, .unset, .unset, .unset, .unset, .unset, .unset, .unset] [(.int ((g2_ + 1) + ((p0_3.toUInt32 >>> ((30 : Int32) &&& 31).toUInt32).toInt32)))])) _
    refine XS.istore X0.here hx rfl (hb hby at_86) rfl (l' := #[iv p0_0, iv p0_1, iv p0_2, iv p0_3, iv p0_4, iv p0_5, iv a1_, iv b1_, iv g1_, iv d1_, iv a2_, iv b2_, iv g2_, iv ((g2_ + 1) + ((p0_3.toUInt32 >>> ((30 : Int32) &&& 31).toUInt32).toInt32)), .unset, .unset, .unset, .unset, .unset, .unset, .unset, .unset, .unset, .unset, .unset, .unset, .unset, .unset, .unset]) rfl ?_
    show Steps _ _ _ (State.setTop _ (mkF m 88 #[iv p0_0, iv p0_1, iv p0_2, iv p0_3, iv p0_4, iv p0_5, iv a1_, iv b1_, iv g1_, iv d1_, iv a2_, iv b2_, iv g2_, iv ((g2_ + 1) + ((p0_3.toUInt32 >>> ((30 : Int32) &&& 31).toUInt32).toInt32)), .unset, .unset, .unset, .unset, .unset, .unset, .unset, .unset, .unset, .unset, .unset, .unset, .unset, .unset, .unset] [])) _
    rw [← h_d2_]
    show Steps _ _ _ (State.setTop _ (mkF m 88 #[iv p0_0, iv p0_1, iv p0_2, iv p0_3, iv p0_4, iv p0_5, iv a1_, iv b1_, iv g1_, iv d1_, iv a2_, iv b2_, iv g2_, iv d2_, .unset, .unset, .unset, .unset, .unset, .unset, .unset, .unset, .unset, .unset, .unset, .unset, .unset, .unset, .unset] [])) _
    show Steps _ _ _ (State.setTop _ (mkF m 88 #[iv p0_0, iv p0_1, iv p0_2, iv p0_3, iv p0_4, iv p0_5, iv a1_, iv b1_, iv g1_, iv d1_, iv a2_, iv b2_, iv g2_, iv d2_, .unset, .unset, .unset, .unset, .unset, .unset, .unset, .unset, .unset, .unset, .unset, .unset, .unset, .unset, .unset] [])) _
    refine XS.iconst X0.here hx rfl (hb hby at_88) ?_
    refine XS.iload X0.here hx rfl (hb hby at_89) rfl ?_
    refine XS.iconst X0.here hx rfl (hb hby at_91) ?_
    refine XS.iand X0.here hx rfl (hb hby at_92) rfl ?_
    refine XS.iadd X0.here hx rfl (hb hby at_93) rfl ?_
    refine XS.istore X0.here hx rfl (hb hby at_94) rfl (l' := #[iv p0_0, iv p0_1, iv p0_2, iv p0_3, iv p0_4, iv p0_5, iv a1_, iv b1_, iv g1_, iv d1_, iv a2_, iv b2_, iv g2_, iv d2_, iv ((1 : Int32) + (p0_5 &&& 3)), .unset, .unset, .unset, .unset, .unset, .unset, .unset, .unset, .unset, .unset, .unset, .unset, .unset, .unset]) rfl ?_
    show Steps _ _ _ (State.setTop _ (mkF m 96 #[iv p0_0, iv p0_1, iv p0_2, iv p0_3, iv p0_4, iv p0_5, iv a1_, iv b1_, iv g1_, iv d1_, iv a2_, iv b2_, iv g2_, iv d2_, iv ((1 : Int32) + (p0_5 &&& 3)), .unset, .unset, .unset, .unset, .unset, .unset, .unset, .unset, .unset, .unset, .unset, .unset, .unset, .unset] [])) _
    rw [← h_n1_]
    show Steps _ _ _ (State.setTop _ (mkF m 96 #[iv p0_0, iv p0_1, iv p0_2, iv p0_3, iv p0_4, iv p0_5, iv a1_, iv b1_, iv g1_, iv d1_, iv a2_, iv b2_, iv g2_, iv d2_, iv n1_, .unset, .unset, .unset, .unset, .unset, .unset, .unset, .unset, .unset, .unset, .unset, .unset, .unset, .unset] [])) _
    show Steps _ _ _ (State.setTop _ (mkF m 96 #[iv p0_0, iv p0_1, iv p0_2, iv p0_3, iv p0_4, iv p0_5, iv a1_, iv b1_, iv g1_, iv d1_, iv a2_, iv b2_, iv g2_, iv d2_, iv n1_, .unset, .unset, .unset, .unset, .unset, .unset, .unset, .unset, .unset, .unset, .unset, .unset, .unset, .unset] [])) _
    refine XS.iconst X0.here hx rfl (hb hby at_96) ?_
    refine XS.iload X0.here hx rfl (hb hby at_97) rfl ?_
    refine XS.iconst X0.here hx rfl (hb hby at_99) ?_
    refine XS.iushr X0.here hx rfl (hb hby at_100) rfl ?_
    refine XS.iconst X0.here hx rfl (hb hby at_101) ?_
    refine XS.iand X0.here hx rfl (hb hby at_102) rfl ?_
    refine XS.iadd X0.here hx rfl (hb hby at_103) rfl ?_
    show Steps _ _ _ (State.setTop _ (mkF m 104 #[iv p0_0, iv p0_1, iv p0_2, iv p0_3, iv p0_4, iv p0_5, iv a1_, iv b1_, iv g1_, iv d1_, iv a2_, iv b2_, iv g2_, iv d2_, iv n1_, .unset, .unset, .unset, .unset, .unset, .unset, .unset, .unset, .unset, .unset, .unset, .unset, .unset, .unset] [(.int ((1 : Int32) + (((p0_5.toUInt32 >>> ((2 : Int32) &&& 31).toUInt32).toInt32) &&& 3)))])) _
    refine XS.istore X0.here hx rfl (hb hby at_104) rfl (l' := #[iv p0_0, iv p0_1, iv p0_2, iv p0_3, iv p0_4, iv p0_5, iv a1_, iv b1_, iv g1_, iv d1_, iv a2_, iv b2_, iv g2_, iv d2_, iv n1_, iv ((1 : Int32) + (((p0_5.toUInt32 >>> ((2 : Int32) &&& 31).toUInt32).toInt32) &&& 3)), .unset, .unset, .unset, .unset, .unset, .unset, .unset, .unset, .unset, .unset, .unset, .unset, .unset]) rfl ?_
    show Steps _ _ _ (State.setTop _ (mkF m 106 #[iv p0_0, iv p0_1, iv p0_2, iv p0_3, iv p0_4, iv p0_5, iv a1_, iv b1_, iv g1_, iv d1_, iv a2_, iv b2_, iv g2_, iv d2_, iv n1_, iv ((1 : Int32) + (((p0_5.toUInt32 >>> ((2 : Int32) &&& 31).toUInt32).toInt32) &&& 3)), .unset, .unset, .unset, .unset, .unset, .unset, .unset, .unset, .unset, .unset, .unset, .unset, .unset] [])) _
    rw [← h_n2_]
    show Steps _ _ _ (State.setTop _ (mkF m 106 #[iv p0_0, iv p0_1, iv p0_2, iv p0_3, iv p0_4, iv p0_5, iv a1_, iv b1_, iv g1_, iv d1_, iv a2_, iv b2_, iv g2_, iv d2_, iv n1_, iv n2_, .unset, .unset, .unset, .unset, .unset, .unset, .unset, .unset, .unset, .unset, .unset, .unset, .unset] [])) _
    show Steps _ _ _ (State.setTop _ (mkF m 106 #[iv p0_0, iv p0_1, iv p0_2, iv p0_3, iv p0_4, iv p0_5, iv a1_, iv b1_, iv g1_, iv d1_, iv a2_, iv b2_, iv g2_, iv d2_, iv n1_, iv n2_, .unset, .unset, .unset, .unset, .unset, .unset, .unset, .unset, .unset, .unset, .unset, .unset, .unset] [])) _
    refine XS.iload X0.here hx rfl (hb hby at_106) rfl ?_
    refine XS.iconst X0.here hx rfl (hb hby at_108) ?_
    refine XS.iushr X0.here hx rfl (hb hby at_109) rfl ?_
    refine XS.iconst X0.here hx rfl (hb hby at_110) ?_
    refine XS.iand X0.here hx rfl (hb hby at_111) rfl ?_
    refine XS.iload X0.here hx rfl (hb hby at_112) rfl ?_
    show Steps _ _ _ (State.setTop _ (mkF m 114 #[iv p0_0, iv p0_1, iv p0_2, iv p0_3, iv p0_4, iv p0_5, iv a1_, iv b1_, iv g1_, iv d1_, iv a2_, iv b2_, iv g2_, iv d2_, iv n1_, iv n2_, .unset, .unset, .unset, .unset, .unset, .unset, .unset, .unset, .unset, .unset, .unset, .unset, .unset] [(.int n1_), (.int (((p0_5.toUInt32 >>> ((4 : Int32) &&& 31).toUInt32).toInt32) &&& 3))])) _
    refine iremM (g := (mkF m 114 #[iv p0_0, iv p0_1, iv p0_2, iv p0_3, iv p0_4, iv p0_5, iv a1_, iv b1_, iv g1_, iv d1_, iv a2_, iv b2_, iv g2_, iv d2_, iv n1_, iv n2_, .unset, .unset, .unset, .unset, .unset, .unset, .unset, .unset, .unset, .unset, .unset, .unset, .unset] [(.int n1_), (.int (((p0_5.toUInt32 >>> ((4 : Int32) &&& 31).toUInt32).toInt32) &&& 3))])) X0 hx rfl (hb hby at_114) rfl (own_z0 hn1.1) ?_
    refine XS.istore X0.here hx rfl (hb hby at_115) rfl (l' := #[iv p0_0, iv p0_1, iv p0_2, iv p0_3, iv p0_4, iv p0_5, iv a1_, iv b1_, iv g1_, iv d1_, iv a2_, iv b2_, iv g2_, iv d2_, iv n1_, iv n2_, iv ((((p0_5.toUInt32 >>> ((4 : Int32) &&& 31).toUInt32).toInt32) &&& 3) % n1_), .unset, .unset, .unset, .unset, .unset, .unset, .unset, .unset, .unset, .unset, .unset, .unset]) rfl ?_
    show Steps _ _ _ (State.setTop _ (mkF m 117 #[iv p0_0, iv p0_1, iv p0_2, iv p0_3, iv p0_4, iv p0_5, iv a1_, iv b1_, iv g1_, iv d1_, iv a2_, iv b2_, iv g2_, iv d2_, iv n1_, iv n2_, iv ((((p0_5.toUInt32 >>> ((4 : Int32) &&& 31).toUInt32).toInt32) &&& 3) % n1_), .unset, .unset, .unset, .unset, .unset, .unset, .unset, .unset, .unset, .unset, .unset, .unset] [])) _
    rw [← h_i1_]
    show Steps _ _ _ (State.setTop _ (mkF m 117 #[iv p0_0, iv p0_1, iv p0_2, iv p0_3, iv p0_4, iv p0_5, iv a1_, iv b1_, iv g1_, iv d1_, iv a2_, iv b2_, iv g2_, iv d2_, iv n1_, iv n2_, iv i1_, .unset, .unset, .unset, .unset, .unset, .unset, .unset, .unset, .unset, .unset, .unset, .unset] [])) _
    show Steps _ _ _ (State.setTop _ (mkF m 117 #[iv p0_0, iv p0_1, iv p0_2, iv p0_3, iv p0_4, iv p0_5, iv a1_, iv b1_, iv g1_, iv d1_, iv a2_, iv b2_, iv g2_, iv d2_, iv n1_, iv n2_, iv i1_, .unset, .unset, .unset, .unset, .unset, .unset, .unset, .unset, .unset, .unset, .unset, .unset] [])) _
    refine XS.iload X0.here hx rfl (hb hby at_117) rfl ?_
    refine XS.bipush X0.here hx rfl (hb hby at_119) ?_
    refine XS.iushr X0.here hx rfl (hb hby at_121) rfl ?_
    refine XS.iconst X0.here hx rfl (hb hby at_122) ?_
    refine XS.iand X0.here hx rfl (hb hby at_123) rfl ?_
    show Steps _ _ _ (State.setTop _ (mkF m 124 #[iv p0_0, iv p0_1, iv p0_2, iv p0_3, iv p0_4, iv p0_5, iv a1_, iv b1_, iv g1_, iv d1_, iv a2_, iv b2_, iv g2_, iv d2_, iv n1_, iv n2_, iv i1_, .unset, .unset, .unset, .unset, .unset, .unset, .unset, .unset, .unset, .unset, .unset, .unset] [(.int (((p0_5.toUInt32 >>> ((6 : Int32) &&& 31).toUInt32).toInt32) &&& 3))])) _
    refine XS.iload X0.here hx rfl (hb hby at_124) rfl ?_
    refine iremM (g := (mkF m 126 #[iv p0_0, iv p0_1, iv p0_2, iv p0_3, iv p0_4, iv p0_5, iv a1_, iv b1_, iv g1_, iv d1_, iv a2_, iv b2_, iv g2_, iv d2_, iv n1_, iv n2_, iv i1_, .unset, .unset, .unset, .unset, .unset, .unset, .unset, .unset, .unset, .unset, .unset, .unset] [(.int n2_), (.int (((p0_5.toUInt32 >>> ((6 : Int32) &&& 31).toUInt32).toInt32) &&& 3))])) X0 hx rfl (hb hby at_126) rfl (own_z0 hn2.1) ?_
    refine XS.istore X0.here hx rfl (hb hby at_127) rfl (l' := #[iv p0_0, iv p0_1, iv p0_2, iv p0_3, iv p0_4, iv p0_5, iv a1_, iv b1_, iv g1_, iv d1_, iv a2_, iv b2_, iv g2_, iv d2_, iv n1_, iv n2_, iv i1_, iv ((((p0_5.toUInt32 >>> ((6 : Int32) &&& 31).toUInt32).toInt32) &&& 3) % n2_), .unset, .unset, .unset, .unset, .unset, .unset, .unset, .unset, .unset, .unset, .unset]) rfl ?_
    show Steps _ _ _ (State.setTop _ (mkF m 129 #[iv p0_0, iv p0_1, iv p0_2, iv p0_3, iv p0_4, iv p0_5, iv a1_, iv b1_, iv g1_, iv d1_, iv a2_, iv b2_, iv g2_, iv d2_, iv n1_, iv n2_, iv i1_, iv ((((p0_5.toUInt32 >>> ((6 : Int32) &&& 31).toUInt32).toInt32) &&& 3) % n2_), .unset, .unset, .unset, .unset, .unset, .unset, .unset, .unset, .unset, .unset, .unset] [])) _
    rw [← h_i2_]
    show Steps _ _ _ (State.setTop _ (mkF m 129 #[iv p0_0, iv p0_1, iv p0_2, iv p0_3, iv p0_4, iv p0_5, iv a1_, iv b1_, iv g1_, iv d1_, iv a2_, iv b2_, iv g2_, iv d2_, iv n1_, iv n2_, iv i1_, iv i2_, .unset, .unset, .unset, .unset, .unset, .unset, .unset, .unset, .unset, .unset, .unset] [])) _
    show Steps _ _ _ (State.setTop _ (mkF m 129 #[iv p0_0, iv p0_1, iv p0_2, iv p0_3, iv p0_4, iv p0_5, iv a1_, iv b1_, iv g1_, iv d1_, iv a2_, iv b2_, iv g2_, iv d2_, iv n1_, iv n2_, iv i1_, iv i2_, .unset, .unset, .unset, .unset, .unset, .unset, .unset, .unset, .unset, .unset, .unset] [])) _
    refine XS.iload X0.here hx rfl (hb hby at_129) rfl ?_
    refine XS.iload X0.here hx rfl (hb hby at_131) rfl ?_
    refine XS.iload X0.here hx rfl (hb hby at_133) rfl ?_
    refine XS.iload X0.here hx rfl (hb hby at_135) rfl ?_
    show Steps _ _ _ (State.setTop _ (mkF m 137 #[iv p0_0, iv p0_1, iv p0_2, iv p0_3, iv p0_4, iv p0_5, iv a1_, iv b1_, iv g1_, iv d1_, iv a2_, iv b2_, iv g2_, iv d2_, iv n1_, iv n2_, iv i1_, iv i2_, .unset, .unset, .unset, .unset, .unset, .unset, .unset, .unset, .unset, .unset, .unset] [(.int d1_), (.int g1_), (.int b1_), (.int a1_)])) _
    refine XS.iload X0.here hx rfl (hb hby at_137) rfl ?_
    refine st1 _ ?_
    refine XS.astore X1.here hx rfl (hb hby at_142) rfl rfl (l' := #[iv p0_0, iv p0_1, iv p0_2, iv p0_3, iv p0_4, iv p0_5, iv a1_, iv b1_, iv g1_, iv d1_, iv a2_, iv b2_, iv g2_, iv d2_, iv n1_, iv n2_, iv i1_, iv i2_, rv r_1, .unset, .unset, .unset, .unset, .unset, .unset, .unset, .unset, .unset, .unset]) rfl ?_
    refine XS.iload X1.here hx rfl (hb hby at_144) rfl ?_
    refine XS.iload X1.here hx rfl (hb hby at_146) rfl ?_
    refine XS.iload X1.here hx rfl (hb hby at_148) rfl ?_
    refine XS.iload X1.here hx rfl (hb hby at_150) rfl ?_
    refine XS.iload X1.here hx rfl (hb hby at_152) rfl ?_
    refine st6 _ ?_
    show Steps _ _ _ (State.setTop _ (mkF m 157 #[iv p0_0, iv p0_1, iv p0_2, iv p0_3, iv p0_4, iv p0_5, iv a1_, iv b1_, iv g1_, iv d1_, iv a2_, iv b2_, iv g2_, iv d2_, iv n1_, iv n2_, iv i1_, iv i2_, rv r_1, .unset, .unset, .unset, .unset, .unset, .unset, .unset, .unset, .unset, .unset] [(.ref r_6)])) _
    refine XS.astore X6.here hx rfl (hb hby at_157) rfl rfl (l' := #[iv p0_0, iv p0_1, iv p0_2, iv p0_3, iv p0_4, iv p0_5, iv a1_, iv b1_, iv g1_, iv d1_, iv a2_, iv b2_, iv g2_, iv d2_, iv n1_, iv n2_, iv i1_, iv i2_, rv r_1, rv r_6, .unset, .unset, .unset, .unset, .unset, .unset, .unset, .unset, .unset]) rfl ?_
    refine XS.bipush X6.here hx rfl (hb hby at_159) ?_
    refine XS.iload X6.here hx rfl (hb hby at_161) rfl ?_
    refine XS.bipush X6.here hx rfl (hb hby at_163) ?_
    refine XS.iand X6.here hx rfl (hb hby at_165) rfl ?_
    refine XS.bipush X6.here hx rfl (hb hby at_166) ?_
    refine iremM (g := (mkF m 168 #[iv p0_0, iv p0_1, iv p0_2, iv p0_3, iv p0_4, iv p0_5, iv a1_, iv b1_, iv g1_, iv d1_, iv a2_, iv b2_, iv g2_, iv d2_, iv n1_, iv n2_, iv i1_, iv i2_, rv r_1, rv r_6, .unset, .unset, .unset, .unset, .unset, .unset, .unset, .unset, .unset] [(.int 94), (.int (p0_4 &&& 127)), (.int 33)])) X6 hx rfl (hb hby at_168) rfl (by decide) ?_
    refine XS.iadd X6.here hx rfl (hb hby at_169) rfl ?_
    refine XS.i2c X6.here hx rfl (hb hby at_170) rfl ?_
    show Steps _ _ _ (State.setTop _ (mkF m 171 #[iv p0_0, iv p0_1, iv p0_2, iv p0_3, iv p0_4, iv p0_5, iv a1_, iv b1_, iv g1_, iv d1_, iv a2_, iv b2_, iv g2_, iv d2_, iv n1_, iv n2_, iv i1_, iv i2_, rv r_1, rv r_6, .unset, .unset, .unset, .unset, .unset, .unset, .unset, .unset, .unset] [(.int (((33 : Int32) + ((p0_4 &&& 127) % (94 : Int32))).toUInt32.toUInt16.toUInt32.toInt32))])) _
    refine XS.istore X6.here hx rfl (hb hby at_171) rfl (l' := #[iv p0_0, iv p0_1, iv p0_2, iv p0_3, iv p0_4, iv p0_5, iv a1_, iv b1_, iv g1_, iv d1_, iv a2_, iv b2_, iv g2_, iv d2_, iv n1_, iv n2_, iv i1_, iv i2_, rv r_1, rv r_6, iv (((33 : Int32) + ((p0_4 &&& 127) % (94 : Int32))).toUInt32.toUInt16.toUInt32.toInt32), .unset, .unset, .unset, .unset, .unset, .unset, .unset, .unset]) rfl ?_
    show Steps _ _ _ (State.setTop _ (mkF m 173 #[iv p0_0, iv p0_1, iv p0_2, iv p0_3, iv p0_4, iv p0_5, iv a1_, iv b1_, iv g1_, iv d1_, iv a2_, iv b2_, iv g2_, iv d2_, iv n1_, iv n2_, iv i1_, iv i2_, rv r_1, rv r_6, iv (((33 : Int32) + ((p0_4 &&& 127) % (94 : Int32))).toUInt32.toUInt16.toUInt32.toInt32), .unset, .unset, .unset, .unset, .unset, .unset, .unset, .unset] [])) _
    rw [← h_x0_]
    show Steps _ _ _ (State.setTop _ (mkF m 173 #[iv p0_0, iv p0_1, iv p0_2, iv p0_3, iv p0_4, iv p0_5, iv a1_, iv b1_, iv g1_, iv d1_, iv a2_, iv b2_, iv g2_, iv d2_, iv n1_, iv n2_, iv i1_, iv i2_, rv r_1, rv r_6, iv x0_, .unset, .unset, .unset, .unset, .unset, .unset, .unset, .unset] [])) _
    show Steps _ _ _ (State.setTop _ (mkF m 173 #[iv p0_0, iv p0_1, iv p0_2, iv p0_3, iv p0_4, iv p0_5, iv a1_, iv b1_, iv g1_, iv d1_, iv a2_, iv b2_, iv g2_, iv d2_, iv n1_, iv n2_, iv i1_, iv i2_, rv r_1, rv r_6, iv x0_, .unset, .unset, .unset, .unset, .unset, .unset, .unset, .unset] [])) _
    refine XS.bipush X6.here hx rfl (hb hby at_173) ?_
    refine XS.iload X6.here hx rfl (hb hby at_175) rfl ?_
    refine XS.bipush X6.here hx rfl (hb hby at_177) ?_
    refine XS.iushr X6.here hx rfl (hb hby at_179) rfl ?_
    refine XS.bipush X6.here hx rfl (hb hby at_180) ?_
    refine XS.iand X6.here hx rfl (hb hby at_182) rfl ?_
    show Steps _ _ _ (State.setTop _ (mkF m 183 #[iv p0_0, iv p0_1, iv p0_2, iv p0_3, iv p0_4, iv p0_5, iv a1_, iv b1_, iv g1_, iv d1_, iv a2_, iv b2_, iv g2_, iv d2_, iv n1_, iv n2_, iv i1_, iv i2_, rv r_1, rv r_6, iv x0_, .unset, .unset, .unset, .unset, .unset, .unset, .unset, .unset] [(.int (((p0_4.toUInt32 >>> ((7 : Int32) &&& 31).toUInt32).toInt32) &&& 127)), (.int 33)])) _
    refine XS.bipush X6.here hx rfl (hb hby at_183) ?_
    refine iremM (g := (mkF m 185 #[iv p0_0, iv p0_1, iv p0_2, iv p0_3, iv p0_4, iv p0_5, iv a1_, iv b1_, iv g1_, iv d1_, iv a2_, iv b2_, iv g2_, iv d2_, iv n1_, iv n2_, iv i1_, iv i2_, rv r_1, rv r_6, iv x0_, .unset, .unset, .unset, .unset, .unset, .unset, .unset, .unset] [(.int 94), (.int (((p0_4.toUInt32 >>> ((7 : Int32) &&& 31).toUInt32).toInt32) &&& 127)), (.int 33)])) X6 hx rfl (hb hby at_185) rfl (by decide) ?_
    refine XS.iadd X6.here hx rfl (hb hby at_186) rfl ?_
    refine XS.i2c X6.here hx rfl (hb hby at_187) rfl ?_
    refine XS.istore X6.here hx rfl (hb hby at_188) rfl (l' := #[iv p0_0, iv p0_1, iv p0_2, iv p0_3, iv p0_4, iv p0_5, iv a1_, iv b1_, iv g1_, iv d1_, iv a2_, iv b2_, iv g2_, iv d2_, iv n1_, iv n2_, iv i1_, iv i2_, rv r_1, rv r_6, iv x0_, iv (((33 : Int32) + ((((p0_4.toUInt32 >>> ((7 : Int32) &&& 31).toUInt32).toInt32) &&& 127) % (94 : Int32))).toUInt32.toUInt16.toUInt32.toInt32), .unset, .unset, .unset, .unset, .unset, .unset, .unset]) rfl ?_
    show Steps _ _ _ (State.setTop _ (mkF m 190 #[iv p0_0, iv p0_1, iv p0_2, iv p0_3, iv p0_4, iv p0_5, iv a1_, iv b1_, iv g1_, iv d1_, iv a2_, iv b2_, iv g2_, iv d2_, iv n1_, iv n2_, iv i1_, iv i2_, rv r_1, rv r_6, iv x0_, iv (((33 : Int32) + ((((p0_4.toUInt32 >>> ((7 : Int32) &&& 31).toUInt32).toInt32) &&& 127) % (94 : Int32))).toUInt32.toUInt16.toUInt32.toInt32), .unset, .unset, .unset, .unset, .unset, .unset, .unset] [])) _
    rw [← h_x1_]
    show Steps _ _ _ (State.setTop _ (mkF m 190 #[iv p0_0, iv p0_1, iv p0_2, iv p0_3, iv p0_4, iv p0_5, iv a1_, iv b1_, iv g1_, iv d1_, iv a2_, iv b2_, iv g2_, iv d2_, iv n1_, iv n2_, iv i1_, iv i2_, rv r_1, rv r_6, iv x0_, iv x1_, .unset, .unset, .unset, .unset, .unset, .unset, .unset] [])) _
    show Steps _ _ _ (State.setTop _ (mkF m 190 #[iv p0_0, iv p0_1, iv p0_2, iv p0_3, iv p0_4, iv p0_5, iv a1_, iv b1_, iv g1_, iv d1_, iv a2_, iv b2_, iv g2_, iv d2_, iv n1_, iv n2_, iv i1_, iv i2_, rv r_1, rv r_6, iv x0_, iv x1_, .unset, .unset, .unset, .unset, .unset, .unset, .unset] [])) _
    refine XS.iload X6.here hx rfl (hb hby at_190) rfl ?_
    refine st14 _ ?_
    show Steps _ _ _ (State.setTop _ (mkF m 195 #[iv p0_0, iv p0_1, iv p0_2, iv p0_3, iv p0_4, iv p0_5, iv a1_, iv b1_, iv g1_, iv d1_, iv a2_, iv b2_, iv g2_, iv d2_, iv n1_, iv n2_, iv i1_, iv i2_, rv r_1, rv r_6, iv x0_, iv x1_, .unset, .unset, .unset, .unset, .unset, .unset, .unset] [(.ref r_14)])) _
    refine st28.trans ?_
    refine XS.astore X28.here hx rfl (hb hby at_198) rfl rfl (l' := #[iv p0_0, iv p0_1, iv p0_2, iv p0_3, iv p0_4, iv p0_5, iv a1_, iv b1_, iv g1_, iv d1_, iv a2_, iv b2_, iv g2_, iv d2_, iv n1_, iv n2_, iv i1_, iv i2_, rv r_1, rv r_6, iv x0_, iv x1_, rv r_28, .unset, .unset, .unset, .unset, .unset, .unset]) rfl ?_
    refine st40 _ ?_
    refine XS.dup X40.here hx rfl (hb hby at_203) rfl rfl ?_
    refine XS.iconst X40.here hx rfl (hb hby at_204) ?_
    refine st56 _ ?_
    refine XS.dup X56.here hx rfl (hb hby at_207) rfl rfl ?_
    refine XS.iconst X56.here hx rfl (hb hby at_208) ?_
    refine XS.iload X56.here hx rfl (hb hby at_209) rfl ?_
    show Steps _ _ _ (State.setTop _ (mkF m 211 #[iv p0_0, iv p0_1, iv p0_2, iv p0_3, iv p0_4, iv p0_5, iv a1_, iv b1_, iv g1_, iv d1_, iv a2_, iv b2_, iv g2_, iv d2_, iv n1_, iv n2_, iv i1_, iv i2_, rv r_1, rv r_6, iv x0_, iv x1_, rv r_28, .unset, .unset, .unset, .unset, .unset, .unset] [(.int x0_), (.int 0), (.ref b56), (.ref b56), (.ref b40), (.ref b40)])) _
    refine st75 _ ?_
    refine XS.dup X75.here hx rfl (hb hby at_212) rfl rfl ?_
    refine XS.iconst X75.here hx rfl (hb hby at_213) ?_
    refine XS.iload X75.here hx rfl (hb hby at_214) rfl ?_
    refine st81 _ ?_
    show Steps _ _ _ (State.setTop _ (mkF m 217 #[iv p0_0, iv p0_1, iv p0_2, iv p0_3, iv p0_4, iv p0_5, iv a1_, iv b1_, iv g1_, iv d1_, iv a2_, iv b2_, iv g2_, iv d2_, iv n1_, iv n2_, iv i1_, iv i2_, rv r_1, rv r_6, iv x0_, iv x1_, rv r_28, .unset, .unset, .unset, .unset, .unset, .unset] [(.ref b56), (.ref b40), (.ref b40)])) _
    show Steps _ _ _ (State.setTop _ (mkF m 217 #[iv p0_0, iv p0_1, iv p0_2, iv p0_3, iv p0_4, iv p0_5, iv a1_, iv b1_, iv g1_, iv d1_, iv a2_, iv b2_, iv g2_, iv d2_, iv n1_, iv n2_, iv i1_, iv i2_, rv r_1, rv r_6, iv x0_, iv x1_, rv r_28, .unset, .unset, .unset, .unset, .unset, .unset] [(.ref b56), (.ref b40), (.ref b40)])) _
    show Steps _ _ _ (State.setTop _ (mkF m 217 #[iv p0_0, iv p0_1, iv p0_2, iv p0_3, iv p0_4, iv p0_5, iv a1_, iv b1_, iv g1_, iv d1_, iv a2_, iv b2_, iv g2_, iv d2_, iv n1_, iv n2_, iv i1_, iv i2_, rv r_1, rv r_6, iv x0_, iv x1_, rv r_28, .unset, .unset, .unset, .unset, .unset, .unset] [(.ref b56), (.ref b40), (.ref b40)])) _
    refine st89.trans ?_
    refine st113.trans ?_
    show Steps _ _ _ (State.setTop _ (mkF m 223 #[iv p0_0, iv p0_1, iv p0_2, iv p0_3, iv p0_4, iv p0_5, iv a1_, iv b1_, iv g1_, iv d1_, iv a2_, iv b2_, iv g2_, iv d2_, iv n1_, iv n2_, iv i1_, iv i2_, rv r_1, rv r_6, iv x0_, iv x1_, rv r_28, .unset, .unset, .unset, .unset, .unset, .unset] [(.ref r_113)])) _
    refine XS.astore X113.here hx rfl (hb hby at_223) rfl rfl (l' := #[iv p0_0, iv p0_1, iv p0_2, iv p0_3, iv p0_4, iv p0_5, iv a1_, iv b1_, iv g1_, iv d1_, iv a2_, iv b2_, iv g2_, iv d2_, iv n1_, iv n2_, iv i1_, iv i2_, rv r_1, rv r_6, iv x0_, iv x1_, rv r_28, rv r_113, .unset, .unset, .unset, .unset, .unset]) rfl ?_
    refine st134 _ ?_
    refine XS.dup X134.here hx rfl (hb hby at_228) rfl rfl ?_
    refine XS.iloadN X134.here hx rfl (hb hby at_229) rfl ?_
    refine st163.trans ?_
    refine XS.astore X163.here hx rfl (hb hby at_233) rfl rfl (l' := #[iv p0_0, iv p0_1, iv p0_2, iv p0_3, iv p0_4, iv p0_5, iv a1_, iv b1_, iv g1_, iv d1_, iv a2_, iv b2_, iv g2_, iv d2_, iv n1_, iv n2_, iv i1_, iv i2_, rv r_1, rv r_6, iv x0_, iv x1_, rv r_28, rv r_113, rv b134, .unset, .unset, .unset, .unset]) rfl ?_
    refine XS.aload X163.here hx rfl (hb hby at_235) rfl rfl ?_
    refine XS.aload X163.here hx rfl (hb hby at_237) rfl rfl ?_
    refine XS.aconstNull X163.here hx rfl (hb hby at_239) ?_
    show Steps _ _ _ (State.setTop _ (mkF m 240 #[iv p0_0, iv p0_1, iv p0_2, iv p0_3, iv p0_4, iv p0_5, iv a1_, iv b1_, iv g1_, iv d1_, iv a2_, iv b2_, iv g2_, iv d2_, iv n1_, iv n2_, iv i1_, iv i2_, rv r_1, rv r_6, iv x0_, iv x1_, rv r_28, rv r_113, rv b134, .unset, .unset, .unset, .unset] [.null, (.ref r_28), (.ref b134)])) _
    refine XS.aload X163.here hx rfl (hb hby at_240) rfl rfl ?_
    refine st221.trans ?_
    show Steps _ _ _ (State.setTop _ (mkF m 245 #[iv p0_0, iv p0_1, iv p0_2, iv p0_3, iv p0_4, iv p0_5, iv a1_, iv b1_, iv g1_, iv d1_, iv a2_, iv b2_, iv g2_, iv d2_, iv n1_, iv n2_, iv i1_, iv i2_, rv r_1, rv r_6, iv x0_, iv x1_, rv r_28, rv r_113, rv b134, .unset, .unset, .unset, .unset] [])) _
    show Steps _ _ _ (State.setTop _ (mkF m 245 #[iv p0_0, iv p0_1, iv p0_2, iv p0_3, iv p0_4, iv p0_5, iv a1_, iv b1_, iv g1_, iv d1_, iv a2_, iv b2_, iv g2_, iv d2_, iv n1_, iv n2_, iv i1_, iv i2_, rv r_1, rv r_6, iv x0_, iv x1_, rv r_28, rv r_113, rv b134, .unset, .unset, .unset, .unset] [])) _
    refine XS.aload X221.here hx rfl (hb hby at_245) rfl rfl ?_
    refine XS.aload X221.here hx rfl (hb hby at_247) rfl rfl ?_
    refine XS.aconstNull X221.here hx rfl (hb hby at_249) ?_
    refine XS.aload X221.here hx rfl (hb hby at_250) rfl rfl ?_
    refine st236.trans ?_
    refine XS.aload X236.here hx rfl (hb hby at_255) rfl rfl ?_
    show Steps _ _ _ (State.setTop _ (mkF m 257 #[iv p0_0, iv p0_1, iv p0_2, iv p0_3, iv p0_4, iv p0_5, iv a1_, iv b1_, iv g1_, iv d1_, iv a2_, iv b2_, iv g2_, iv d2_, iv n1_, iv n2_, iv i1_, iv i2_, rv r_1, rv r_6, iv x0_, iv x1_, rv r_28, rv r_113, rv b134, .unset, .unset, .unset, .unset] [(.ref b134)])) _
    refine XS.aload X236.here hx rfl (hb hby at_257) rfl rfl ?_
    refine st248.trans ?_
    refine XS.istore X248.here hx rfl (hb hby at_262) rfl (l' := #[iv p0_0, iv p0_1, iv p0_2, iv p0_3, iv p0_4, iv p0_5, iv a1_, iv b1_, iv g1_, iv d1_, iv a2_, iv b2_, iv g2_, iv d2_, iv n1_, iv n2_, iv i1_, iv i2_, rv r_1, rv r_6, iv x0_, iv x1_, rv r_28, rv r_113, rv b134, iv ((own_hash p0_0 (1 : Int32) x0_) &&& 7), .unset, .unset, .unset]) rfl ?_
    refine XS.aload X248.here hx rfl (hb hby at_264) rfl rfl ?_
    refine XS.aload X248.here hx rfl (hb hby at_266) rfl rfl ?_
    refine st257.trans ?_
    refine XS.istore X257.here hx rfl (hb hby at_271) rfl (l' := #[iv p0_0, iv p0_1, iv p0_2, iv p0_3, iv p0_4, iv p0_5, iv a1_, iv b1_, iv g1_, iv d1_, iv a2_, iv b2_, iv g2_, iv d2_, iv n1_, iv n2_, iv i1_, iv i2_, rv r_1, rv r_6, iv x0_, iv x1_, rv r_28, rv r_113, rv b134, iv ((own_hash p0_0 (1 : Int32) x0_) &&& 7), iv (own_sl2 (own_hash p0_0 (2 : Int32) (x0_ ||| (x1_ <<< ((16 : Int32) &&& 31)))) ((own_hash p0_0 (1 : Int32) x0_) &&& 7)), .unset, .unset]) rfl ?_
    refine XS.iload X257.here hx rfl (hb hby at_273) rfl ?_
    refine XS.iload X257.here hx rfl (hb hby at_275) rfl ?_
    show Steps _ _ _ (State.setTop _ (mkF m 277 #[iv p0_0, iv p0_1, iv p0_2, iv p0_3, iv p0_4, iv p0_5, iv a1_, iv b1_, iv g1_, iv d1_, iv a2_, iv b2_, iv g2_, iv d2_, iv n1_, iv n2_, iv i1_, iv i2_, rv r_1, rv r_6, iv x0_, iv x1_, rv r_28, rv r_113, rv b134, iv ((own_hash p0_0 (1 : Int32) x0_) &&& 7), iv (own_sl2 (own_hash p0_0 (2 : Int32) (x0_ ||| (x1_ <<< ((16 : Int32) &&& 31)))) ((own_hash p0_0 (1 : Int32) x0_) &&& 7)), .unset, .unset] [(.int b1_), (.int a1_)])) _
    refine XS.iload X257.here hx rfl (hb hby at_277) rfl ?_
    refine XS.iload X257.here hx rfl (hb hby at_279) rfl ?_
    refine XS.iload X257.here hx rfl (hb hby at_281) rfl ?_
    refine st259 _ ?_
    refine XS.istore X259.here hx rfl (hb hby at_286) rfl (l' := #[iv p0_0, iv p0_1, iv p0_2, iv p0_3, iv p0_4, iv p0_5, iv a1_, iv b1_, iv g1_, iv d1_, iv a2_, iv b2_, iv g2_, iv d2_, iv n1_, iv n2_, iv i1_, iv i2_, rv r_1, rv r_6, iv x0_, iv x1_, rv r_28, rv r_113, rv b134, iv ((own_hash p0_0 (1 : Int32) x0_) &&& 7), iv (own_sl2 (own_hash p0_0 (2 : Int32) (x0_ ||| (x1_ <<< ((16 : Int32) &&& 31)))) ((own_hash p0_0 (1 : Int32) x0_) &&& 7)), iv (own_at a1_ b1_ g1_ d1_ i1_), .unset]) rfl ?_
    refine XS.iload X259.here hx rfl (hb hby at_288) rfl ?_
    refine XS.iload X259.here hx rfl (hb hby at_290) rfl ?_
    refine XS.iload X259.here hx rfl (hb hby at_292) rfl ?_
    refine XS.iload X259.here hx rfl (hb hby at_294) rfl ?_
    show Steps _ _ _ (State.setTop _ (mkF m 296 #[iv p0_0, iv p0_1, iv p0_2, iv p0_3, iv p0_4, iv p0_5, iv a1_, iv b1_, iv g1_, iv d1_, iv a2_, iv b2_, iv g2_, iv d2_, iv n1_, iv n2_, iv i1_, iv i2_, rv r_1, rv r_6, iv x0_, iv x1_, rv r_28, rv r_113, rv b134, iv ((own_hash p0_0 (1 : Int32) x0_) &&& 7), iv (own_sl2 (own_hash p0_0 (2 : Int32) (x0_ ||| (x1_ <<< ((16 : Int32) &&& 31)))) ((own_hash p0_0 (1 : Int32) x0_) &&& 7)), iv (own_at a1_ b1_ g1_ d1_ i1_), .unset] [(.int d2_), (.int g2_), (.int b2_), (.int a2_)])) _
    refine XS.iload X259.here hx rfl (hb hby at_296) rfl ?_
    refine st261 _ ?_
    refine XS.istore X261.here hx rfl (hb hby at_301) rfl (l' := #[iv p0_0, iv p0_1, iv p0_2, iv p0_3, iv p0_4, iv p0_5, iv a1_, iv b1_, iv g1_, iv d1_, iv a2_, iv b2_, iv g2_, iv d2_, iv n1_, iv n2_, iv i1_, iv i2_, rv r_1, rv r_6, iv x0_, iv x1_, rv r_28, rv r_113, rv b134, iv ((own_hash p0_0 (1 : Int32) x0_) &&& 7), iv (own_sl2 (own_hash p0_0 (2 : Int32) (x0_ ||| (x1_ <<< ((16 : Int32) &&& 31)))) ((own_hash p0_0 (1 : Int32) x0_) &&& 7)), iv (own_at a1_ b1_ g1_ d1_ i1_), iv (own_at a2_ b2_ g2_ d2_ i2_)]) rfl ?_
    refine XS.aload X261.here hx rfl (hb hby at_303) rfl rfl ?_
    refine XS.iload X261.here hx rfl (hb hby at_305) rfl ?_
    refine XS.iload X261.here hx rfl (hb hby at_307) rfl ?_
    refine st263.trans ?_
    refine XS.iload X263.here hx rfl (hb hby at_312) rfl ?_
    refine XS.icmpNo X263.here hx rfl (hb hby at_314) rfl (teq hc265).2 ?_
    show Steps _ _ _ (State.setTop _ (mkF m 317 #[iv p0_0, iv p0_1, iv p0_2, iv p0_3, iv p0_4, iv p0_5, iv a1_, iv b1_, iv g1_, iv d1_, iv a2_, iv b2_, iv g2_, iv d2_, iv n1_, iv n2_, iv i1_, iv i2_, rv r_1, rv r_6, iv x0_, iv x1_, rv r_28, rv r_113, rv b134, iv ((own_hash p0_0 (1 : Int32) x0_) &&& 7), iv (own_sl2 (own_hash p0_0 (2 : Int32) (x0_ ||| (x1_ <<< ((16 : Int32) &&& 31)))) ((own_hash p0_0 (1 : Int32) x0_) &&& 7)), iv (own_at a1_ b1_ g1_ d1_ i1_), iv (own_at a2_ b2_ g2_ d2_ i2_)] [])) _
    refine XS.aload X263.here hx rfl (hb hby at_317) rfl rfl ?_
    refine XS.iload X263.here hx rfl (hb hby at_319) rfl ?_
    refine XS.iload X263.here hx rfl (hb hby at_321) rfl ?_
    refine st266.trans ?_
    refine XS.iload X266.here hx rfl (hb hby at_326) rfl ?_
    refine XS.icmpNo X266.here hx rfl (hb hby at_328) rfl (teq hc268).2 ?_
    refine XS.iconst X266.here hx rfl (hb hby at_331) ?_
    refine XS.goto X266.here hx rfl (pc0 := 332) (pc' := 336) rfl (hb hby at_332) (by decide) (by decide) ?_
    show Steps _ _ _ (State.setTop _ (mkF m 336 #[iv p0_0, iv p0_1, iv p0_2, iv p0_3, iv p0_4, iv p0_5, iv a1_, iv b1_, iv g1_, iv d1_, iv a2_, iv b2_, iv g2_, iv d2_, iv n1_, iv n2_, iv i1_, iv i2_, rv r_1, rv r_6, iv x0_, iv x1_, rv r_28, rv r_113, rv b134, iv ((own_hash p0_0 (1 : Int32) x0_) &&& 7), iv (own_sl2 (own_hash p0_0 (2 : Int32) (x0_ ||| (x1_ <<< ((16 : Int32) &&& 31)))) ((own_hash p0_0 (1 : Int32) x0_) &&& 7)), iv (own_at a1_ b1_ g1_ d1_ i1_), iv (own_at a2_ b2_ g2_ d2_ i2_)] [(.int 1)])) _
    exact retN X266 hx (t := .boolean) Bd.returns (by simp) (hb hby at_336) hr
  · show Q_rm0 Z _ _ _ _ _ _ _ _ h0 n0 _ T266.heap _
    rw [K266q]
    exact ⟨rfl, N267, (K239)⟩
set_option maxRecDepth 65536 in
set_option maxHeartbeats 40000000 in
theorem comes_1 {Post : Tables → Env → Array Value → State → Outcome → State → Prop} (hpost : ∀ tb e args s v u, (limb_1_1.after args s (.returned v) u = true ∧ limb_1_2.after args s (.returned v) u = true ∧ True) → FramedW s (.returned v) u (Jvm.fieldLocs frame_1_writes args s ++ Jvm.arrayLocs frame_1_arrays args s ++ Jvm.staticLocs frame_1_statics s) 40 1344 → Post tb e args s (.returned v) u) :
    ArmFor flags0 classFile x code maxLocals ret World_1 tables_1 room_1 Calls_1 rest_1 Pre_1 Post := by
  intro l hfl _ _ p e ha hc hk s m args below hf hA hF happ hP
  obtain ⟨hcalls, hrest, hpre⟩ := hP
  obtain ⟨-, -, -, hnamed, -, -, -, hat⟩ := (Spec.applies_iff hf).mp happ
  obtain ⟨hg, hn⟩ := and_e (Cond.before_iff.mp (show (Jvm.Cond.and given_1 narrow_1).before args s = true from hpre))
  obtain ⟨g1, g2⟩ := and_e hg
  obtain ⟨g3, g4⟩ := and_e g2
  obtain ⟨g5, g6⟩ := and_e g4
  obtain ⟨g7, g8⟩ := and_e g6
  obtain ⟨g9, g10⟩ := and_e g8
  obtain ⟨g11, g12⟩ := and_e g10
  obtain ⟨w0, w1, w2, w3, w4, w5, rfl⟩ : ∃ w0 w1 w2 w3 w4 w5 : Value, args = #[w0, w1, w2, w3, w4, w5] := by
    have hs : args.size = 6 := by simpa [Cond.value, given_1] using g1
    obtain ⟨L⟩ := args
    match L, hs with
    | [w0, w1, w2, w3, w4, w5], _ => exact ⟨w0, w1, w2, w3, w4, w5, rfl⟩
  have hw := fun d (hd : d ∈ tables_1) => atoms_spec (ws := Jvm.Cond.code x code maxLocals ret :: tables_1) hat d (List.mem_cons_of_mem _ hd)
  have hfit : Fit s := fun {y c} hc i hi => by
    obtain ⟨ha, rfl⟩ := Array.getElem?_eq_some_iff.mp hc
    have q := List.all_eq_true.mp ((Array.all_eq_true_iff_forall_mem.mp hF) _ (Array.getElem_mem ha)) i (List.mem_range.mpr hi)
    simpa [Array.getElem?_eq_getElem hi] using q
  obtain ⟨hsets, hown0⟩ := atoms_of _ (rest_1_c_eq ▸ (show rest_1_c.before _ s = true from hrest))
  have hr0 := Cond.before_iff.mp hown0
  obtain ⟨i0, ei0⟩ := is_v g3
  obtain rfl : w0 = (.int i0) := Option.some.inj ei0
  obtain ⟨i1, ei1⟩ := is_v g5
  obtain rfl : w1 = (.int i1) := Option.some.inj ei1
  obtain ⟨i2, ei2⟩ := is_v g7
  obtain rfl : w2 = (.int i2) := Option.some.inj ei2
  obtain ⟨i3, ei3⟩ := is_v g9
  obtain rfl : w3 = (.int i3) := Option.some.inj ei3
  obtain ⟨i4, ei4⟩ := is_v g11
  obtain rfl : w4 = (.int i4) := Option.some.inj ei4
  obtain ⟨i5, ei5⟩ := is_v g12
  obtain rfl : w5 = (.int i5) := Option.some.inj ei5
  obtain ⟨cs, ecs⟩ := is_v (Cond.before_iff.mp (hsets _ (own_m 1 rfl)))
  have S_cs : Sta s s.heap "java/lang/String" "COMPACT_STRINGS" "Z" (.int cs) := Sta.start ecs (Or.inl (hsets _ (own_m 0 rfl)))
  have hcs := own_nz (Cond.before_iff.mp (hsets _ (own_m 2 rfl))) ecs
  obtain ⟨fm, efm, rfm⟩ := isR_v (Cond.before_iff.mp (hsets _ (own_m 8 rfl)))
  have S_fm : Sta s s.heap "jdk/internal/util/Preconditions" "SIOOBE_FORMATTER" "Ljava/util/function/BiFunction;" fm := Sta.start efm (Or.inl (hsets _ (own_m 7 rfl)))
  obtain ⟨n, o, h1, h2, h3, _, L, rfl, ⟨rfl, N, -⟩, hq⟩ := rm0 l s _ hw tables_1 i0 i1 i2 i3 i4 i5 cs fm s.heap s.heap.size (Nat.le_refl _) (Old.start s) S_cs hcs S_fm rfm p e ha hc hk s m _ below hf ((Spec.applies_iff_loose hf).mp happ).1 ⟨rfl, State.Warmed39.refl s, rfl⟩ trivial
  refine ⟨n, _, h1, h2, h3, hpost _ _ _ _ _ _ ⟨Cond.after_iff.mpr rfl, Cond.after_iff.mpr (eq_i res_at (Term.int_eval (1)) rfl), trivial⟩ ⟨⟨_, rfl⟩, hq.1, hq.2.1, (hq.2.2.sift fun y hy => Or.inr (N y hy)).mono (by decide) (by decide)⟩⟩
theorem main_1_1 : Claimed_1_1 := comes_1 fun _ _ _ _ _ _ h hF => ⟨h.1, hF⟩
theorem main_1_2 : Claimed_1_2 := comes_1 fun _ _ _ _ _ _ h hF => ⟨h.2.1, hF⟩
end Jvm.Pilot.@@N@@
namespace Jvm.Pilot.@@N@@
open Jvm Jvm.ClassFile Sem Op Lib Jvm.Free Jvm.Stand Jvm.Pilot.@@N@@.Jvm.D
/-! MADE BY PROGRAM (witnessworld.py) out of the Statement's table words and the real class files: 24 classes; the members and pool entries that the words name. The judged class is class 1, her method 3. -/
namespace start1
open Jvm.ClassFile
def u (s : String) : CpInfo := .utf8 (stringToUtf16 s)
/-- a pool by its gaps: so many unusable entries, then the entry; so many at the end -/
def gap : Nat → List CpInfo → List CpInfo
  | 0, r => r
  | n + 1, r => .unusable :: gap n r
def poolList (es : List (Nat × CpInfo)) (last : Nat) : List CpInfo := es.foldr (fun e r => gap e.1 (e.2 :: r)) (gap last [])
def pool (es : List (Nat × CpInfo)) (last : Nat) : Array CpInfo := ⟨poolList es last⟩
def fileOf (pool : Array CpInfo) (this : Nat) (attrs : Array Attribute := #[]) (ms : Array MethodInfo := #[]) (fl : Nat := 33) (sup : Nat := 0) (ifs : Array Nat := #[]) (fds : Array FieldInfo := #[]) : ClassFile where
  minorVersion := 0
  majorVersion := 65
  constantPool := pool
  accessFlags := fl
  thisClass := this
  superClass := sup
  interfaces := ifs
  fields := fds
  methods := ms
  attributes := attrs
def plain (name : String) (sup : Option ClassId) : Class where
  name := name
  kind := .ordinary
  loader := none
  accessFlags := 33
  super := sup
  interfaces := #[]
  cf := none
  fields := #[]
  methods := #[]
  instanceTypes := #[]
  staticTypes := #[]
  resolved := #[]
  callSites := []
  init := .initialized
  statics := none
  mirror := none

def pool0 : Array CpInfo := pool [(5, u "<init>"), (0, u "()V"), (1, .class_ 10), (1, u "java/lang/Object")] 113

def k0c0 : Code := { maxStack := 0, maxLocals := 1, code := object_method_1_code, exceptionTable := #[], attributes := #[] }
def k0m0 : Method := { name := "<init>", desc := "()V", sig := { parameters := [], returnType := none }, accessFlags := 1, code := some k0c0 }
/-- java/lang/Object -/
def k0 : Class := { plain "java/lang/Object" none with
  accessFlags := 33
  interfaces := #[]
  cf := some (fileOf pool0 8 #[] #[{ accessFlags := 1, nameIndex := 5, descriptorIndex := 6, attributes := #[] }] 33 0 #[] #[])
  fields := #[]
  methods := #[k0m0]
  instanceTypes := #[]
  staticTypes := #[]
  resolved := Array.replicate 124 none
  statics := none }

def pool1 : Array CpInfo := pool [(2, .class_ 4), (1, u "java/lang/Object"), (0, u "<init>"), (0, u "()V"), (0, .integer 65535), (0, .integer 1073741823), (0, .methodref 10 11), (0, .class_ 12), (0, .nameAndType 13 14), (0, u "com/example/arbiter/arbiter/OrdinalTableOrdinalPinLaw"), (0, u "pick"), (0, u "(IIIII)[I"), (0, .methodref 16 17), (0, .class_ 18), (0, .nameAndType 19 20), (0, u "java/lang/String"), (0, u "valueOf"), (0, u "(C)Ljava/lang/String;"), (0, .methodref 22 23), (0, .class_ 24), (0, .nameAndType 25 26), (0, u "com/example/arbiter/arbiter/Name"), (0, u "of"), (0, u "(Ljava/lang/String;)Lcom/example/arbiter/arbiter/Name;"), (0, .methodref 16 28), (0, .nameAndType 5 29), (0, u "([C)V"), (0, .class_ 31), (0, u "com/example/arbiter/arbiter/OrdinalTable"), (0, .methodref 30 33), (0, .nameAndType 5 34), (0, u "(I)V"), (0, .methodref 30 36), (0, .nameAndType 37 38), (0, u "put"), (0, u "(Lcom/example/arbiter/arbiter/Name;Ljava/lang/Object;[I)V"), (0, .methodref 30 40), (0, .nameAndType 41 42), (0, u "find"), (0, u "(Lcom/example/arbiter/arbiter/Name;)I"), (0, .methodref 10 44), (0, .nameAndType 45 46), (0, u "at"), (0, u "(IIIII)I"), (0, .methodref 30 48), (0, .nameAndType 49 50), (0, u "ordinal"), (0, u "(II)I"), (3, u "law"), (0, u "(IIIIII)Z")] 4

def k1m0 : Method := { name := "<init>", desc := "()V", sig := { parameters := [], returnType := none }, accessFlags := 1, code := none }
def k1c1 : Code := { maxStack := 4, maxLocals := 5, code := method_2_code, exceptionTable := #[], attributes := #[] }
def k1m1 : Method := { name := "pick", desc := "(IIIII)[I", sig := { parameters := [.int, .int, .int, .int, .int], returnType := some (.array .int) }, accessFlags := 10, code := some k1c1 }
def k1c2 : Code := { maxStack := 2, maxLocals := 5, code := method_3_code, exceptionTable := #[], attributes := #[] }
def k1m2 : Method := { name := "at", desc := "(IIIII)I", sig := { parameters := [.int, .int, .int, .int, .int], returnType := some .int }, accessFlags := 10, code := some k1c2 }
def k1c3 : Code := { maxStack := 6, maxLocals := 29, code := code, exceptionTable := #[], attributes := #[] }
def k1m3 : Method := { name := "law", desc := "(IIIIII)Z", sig := { parameters := [.int, .int, .int, .int, .int, .int], returnType := some .boolean }, accessFlags := 9, code := some k1c3 }
/-- com/example/arbiter/arbiter/OrdinalTableOrdinalPinLaw -/
def k1 : Class := { plain "com/example/arbiter/arbiter/OrdinalTableOrdinalPinLaw" (some 0) with
  accessFlags := 49
  interfaces := #[]
  cf := some (fileOf pool1 10 #[] #[{ accessFlags := 1, nameIndex := 5, descriptorIndex := 6, attributes := #[] }, { accessFlags := 10, nameIndex := 13, descriptorIndex := 14, attributes := #[] }, { accessFlags := 10, nameIndex := 45, descriptorIndex := 46, attributes := #[] }, { accessFlags := 9, nameIndex := 54, descriptorIndex := 55, attributes := #[] }] 49 2 #[] #[])
  fields := #[]
  methods := #[k1m0, k1m1, k1m2, k1m3]
  instanceTypes := #[]
  staticTypes := #[]
  resolved := Array.replicate 60 none
  statics := none }

def pool2 : Array CpInfo := pool [(1, .class_ 2), (0, u "java/io/Serializable"), (0, .class_ 4), (0, u "java/lang/Object")] 2

/-- java/io/Serializable -/
def k2 : Class := { plain "java/io/Serializable" (some 0) with
  accessFlags := 1537
  interfaces := #[]
  cf := some (fileOf pool2 1 #[] #[] 1537 3 #[] #[])
  fields := #[]
  methods := #[]
  instanceTypes := #[]
  staticTypes := #[]
  resolved := Array.replicate 7 none
  statics := none }

def pool3 : Array CpInfo := pool [(1, .class_ 2), (0, u "java/lang/Comparable"), (0, .class_ 4), (0, u "java/lang/Object")] 7

/-- java/lang/Comparable -/
def k3 : Class := { plain "java/lang/Comparable" (some 0) with
  accessFlags := 1537
  interfaces := #[]
  cf := some (fileOf pool3 1 #[] #[] 1537 3 #[] #[])
  fields := #[]
  methods := #[]
  instanceTypes := #[]
  staticTypes := #[]
  resolved := Array.replicate 12 none
  statics := none }

def pool4 : Array CpInfo := pool [(2, .class_ 4), (1, u "java/lang/CharSequence"), (42, .class_ 48), (0, u "java/lang/CharSequence$1CodePointIterator"), (10, .class_ 60), (0, u "java/lang/CharSequence$1CharIterator"), (5, .class_ 67), (0, u "java/lang/Object")] 63

/-- java/lang/CharSequence -/
def k4 : Class := { plain "java/lang/CharSequence" (some 0) with
  accessFlags := 1537
  interfaces := #[]
  cf := some (fileOf pool4 2 #[.nestMembers #[47, 59]] #[] 1537 66 #[] #[])
  fields := #[]
  methods := #[]
  instanceTypes := #[]
  staticTypes := #[]
  resolved := Array.replicate 131 none
  statics := none }

def pool5 : Array CpInfo := pool [(1, .class_ 2), (0, u "java/lang/constant/Constable"), (0, .class_ 4), (0, u "java/lang/Object")] 6

/-- java/lang/constant/Constable -/
def k5 : Class := { plain "java/lang/constant/Constable" (some 0) with
  accessFlags := 1537
  interfaces := #[]
  cf := some (fileOf pool5 1 #[] #[] 1537 3 #[] #[])
  fields := #[]
  methods := #[]
  instanceTypes := #[]
  staticTypes := #[]
  resolved := Array.replicate 11 none
  statics := none }

def pool6 : Array CpInfo := pool [(1, .class_ 2), (0, u "java/lang/constant/ConstantDesc"), (0, .class_ 4), (0, u "java/lang/Object")] 32

/-- java/lang/constant/ConstantDesc -/
def k6 : Class := { plain "java/lang/constant/ConstantDesc" (some 0) with
  accessFlags := 1537
  interfaces := #[]
  cf := some (fileOf pool6 1 #[] #[] 1537 3 #[] #[])
  fields := #[]
  methods := #[]
  instanceTypes := #[]
  staticTypes := #[]
  resolved := Array.replicate 37 none
  statics := none }

def pool7 : Array CpInfo := pool [(1, .methodref 2 3), (0, .class_ 4), (0, .nameAndType 5 6), (0, u "java/lang/Object"), (0, u "<init>"), (0, u "()V"), (2, .fieldref 10 11), (0, .class_ 12), (0, .nameAndType 13 14), (0, u "java/lang/String"), (0, u "value"), (0, u "[B"), (0, .fieldref 10 16), (0, .nameAndType 17 18), (0, u "coder"), (0, u "B"), (2, u "hash"), (0, u "I"), (2, u "hashIsZero"), (0, u "Z"), (0, .methodref 10 28), (0, .nameAndType 5 29), (0, u "([CIILjava/lang/Void;)V"), (7, u "(III)I"), (0, .fieldref 10 39), (0, .nameAndType 40 26), (0, u "COMPACT_STRINGS"), (1, .class_ 44), (1, u "java/lang/StringUTF16"), (0, u "compress"), (1, .methodref 42 48), (0, .nameAndType 49 50), (0, u "coderFromArrayLen"), (0, u "([BI)B"), (2, u "toBytes"), (25, .class_ 81), (1, u "java/util/Objects"), (25, .class_ 109), (1, u "java/lang/StringLatin1"), (32, u "()Z"), (34, .methodref 42 178), (0, .nameAndType 45 179), (0, u "([CII)[B"), (29, .methodref 10 210), (0, .nameAndType 5 211), (0, u "([BB)V"), (122, u "()I"), (0, .methodref 10 336), (0, .nameAndType 17 337), (0, u "()B"), (25, u "([BI)C"), (5, u "(C)Z"), (21, u "(II)V"), (35, u "(I)C"), (64, .methodref 10 493), (0, .nameAndType 494 142), (0, u "isLatin1"), (0, .methodref 107 496), (0, .nameAndType 497 363), (0, u "charAt"), (3, u "checkIndex"), (3, .methodref 10 506), (0, .nameAndType 507 334), (0, u "length"), (3, .methodref 79 512), (0, .nameAndType 513 37), (0, u "checkFromToIndex"), (2, u "codePointCount"), (58, .class_ 576), (0, u "java/lang/CharSequence"), (22, u "CASE_INSENSITIVE_ORDER"), (0, u "Ljava/util/Comparator;"), (35, u "(II)I"), (55, u "isEmpty"), (89, u "valueOf"), (0, u "(C)Ljava/lang/String;"), (226, u "([C)V"), (4, .methodref 107 1016), (0, .nameAndType 1017 369), (0, u "canEncode"), (0, .methodref 107 1019), (0, .nameAndType 53 1020), (0, u "(C)[B"), (32, .fieldref 1054 1055), (0, .class_ 1056), (0, .nameAndType 1057 1058), (0, u "jdk/internal/util/Preconditions"), (0, u "SIOOBE_FORMATTER"), (0, u "Ljava/util/function/BiFunction;"), (0, .methodref 1054 1060), (0, .nameAndType 501 1061), (0, u "(IILjava/util/function/BiFunction;)I"), (39, u "serialPersistentFields"), (0, u "[Ljava/io/ObjectStreamField;"), (0, .class_ 1104), (0, u "java/lang/String$CaseInsensitiveComparator"), (1, .class_ 1107), (0, u "java/io/Serializable"), (0, .class_ 1109), (0, u "java/lang/Comparable"), (0, .class_ 1111), (0, u "java/lang/constant/Constable"), (0, .class_ 1113), (0, u "java/lang/constant/ConstantDesc"), (2, u "serialVersionUID"), (0, u "J"), (3, u "REPL"), (0, u "C"), (2, u "LATIN1"), (1, u "UTF16")] 323

def k7m0 : Method := { name := "<init>", desc := "()V", sig := { parameters := [], returnType := none }, accessFlags := 1, code := none }
def k7c1 : Code := { maxStack := 5, maxLocals := 2, code := jdk_42_method_3_code, exceptionTable := #[], attributes := #[] }
def k7m1 : Method := { name := "<init>", desc := "([C)V", sig := { parameters := [(.array .char)], returnType := none }, accessFlags := 1, code := some k7c1 }
def k7c2 : Code := { maxStack := 2, maxLocals := 1, code := jdk_42_method_54_code, exceptionTable := #[], attributes := #[] }
def k7m2 : Method := { name := "length", desc := "()I", sig := { parameters := [], returnType := some .int }, accessFlags := 1, code := some k7c2 }
def k7c3 : Code := { maxStack := 1, maxLocals := 1, code := jdk_42_method_55_code, exceptionTable := #[], attributes := #[] }
def k7m3 : Method := { name := "isEmpty", desc := "()Z", sig := { parameters := [], returnType := some .boolean }, accessFlags := 1, code := some k7c3 }
def k7c4 : Code := { maxStack := 2, maxLocals := 2, code := jdk_42_method_56_code, exceptionTable := #[], attributes := #[] }
def k7m4 : Method := { name := "charAt", desc := "(I)C", sig := { parameters := [.int], returnType := some .char }, accessFlags := 1, code := some k7c4 }
def k7c5 : Code := { maxStack := 3, maxLocals := 3, code := jdk_42_method_59_code, exceptionTable := #[], attributes := #[] }
def k7m5 : Method := { name := "codePointCount", desc := "(II)I", sig := { parameters := [.int, .int], returnType := some .int }, accessFlags := 1, code := some k7c5 }
def k7c6 : Code := { maxStack := 4, maxLocals := 1, code := jdk_42_method_139_code, exceptionTable := #[], attributes := #[] }
def k7m6 : Method := { name := "valueOf", desc := "(C)Ljava/lang/String;", sig := { parameters := [.char], returnType := some (.object "java/lang/String") }, accessFlags := 9, code := some k7c6 }
def k7c7 : Code := { maxStack := 4, maxLocals := 6, code := jdk_42_method_149_code, exceptionTable := #[], attributes := #[] }
def k7m7 : Method := { name := "<init>", desc := "([CIILjava/lang/Void;)V", sig := { parameters := [(.array .char), .int, .int, (.object "java/lang/Void")], returnType := none }, accessFlags := 2, code := some k7c7 }
def k7c8 : Code := { maxStack := 2, maxLocals := 3, code := jdk_42_method_151_code, exceptionTable := #[], attributes := #[] }
def k7m8 : Method := { name := "<init>", desc := "([BB)V", sig := { parameters := [(.array .byte), .byte], returnType := none }, accessFlags := 0, code := some k7c8 }
def k7c9 : Code := { maxStack := 1, maxLocals := 1, code := jdk_42_method_152_code, exceptionTable := #[], attributes := #[] }
def k7m9 : Method := { name := "coder", desc := "()B", sig := { parameters := [], returnType := some .byte }, accessFlags := 0, code := some k7c9 }
def k7c10 : Code := { maxStack := 1, maxLocals := 1, code := jdk_42_method_154_code, exceptionTable := #[], attributes := #[] }
def k7m10 : Method := { name := "isLatin1", desc := "()Z", sig := { parameters := [], returnType := some .boolean }, accessFlags := 0, code := some k7c10 }
def k7c11 : Code := { maxStack := 3, maxLocals := 2, code := jdk_42_method_155_code, exceptionTable := #[], attributes := #[] }
def k7m11 : Method := { name := "checkIndex", desc := "(II)V", sig := { parameters := [.int, .int], returnType := none }, accessFlags := 8, code := some k7c11 }
/-- java/lang/String -/
def k7 : Class := { plain "java/lang/String" (some 0) with
  accessFlags := 49
  interfaces := #[2, 3, 4, 5, 6]
  cf := some (fileOf pool7 10 #[.nestMembers #[1103]] #[{ accessFlags := 1, nameIndex := 5, descriptorIndex := 6, attributes := #[] }, { accessFlags := 1, nameIndex := 5, descriptorIndex := 1010, attributes := #[] }, { accessFlags := 1, nameIndex := 507, descriptorIndex := 334, attributes := #[] }, { accessFlags := 1, nameIndex := 692, descriptorIndex := 142, attributes := #[] }, { accessFlags := 1, nameIndex := 497, descriptorIndex := 427, attributes := #[] }, { accessFlags := 1, nameIndex := 516, descriptorIndex := 636, attributes := #[] }, { accessFlags := 9, nameIndex := 782, descriptorIndex := 783, attributes := #[] }, { accessFlags := 2, nameIndex := 5, descriptorIndex := 29, attributes := #[] }, { accessFlags := 0, nameIndex := 5, descriptorIndex := 211, attributes := #[] }, { accessFlags := 0, nameIndex := 17, descriptorIndex := 337, attributes := #[] }, { accessFlags := 0, nameIndex := 494, descriptorIndex := 142, attributes := #[] }, { accessFlags := 8, nameIndex := 501, descriptorIndex := 391, attributes := #[] }] 49 2 #[1106, 1108, 575, 1110, 1112] #[{ accessFlags := 18, nameIndex := 13, descriptorIndex := 14, attributes := #[] }, { accessFlags := 18, nameIndex := 17, descriptorIndex := 18, attributes := #[] }, { accessFlags := 2, nameIndex := 21, descriptorIndex := 22, attributes := #[] }, { accessFlags := 2, nameIndex := 25, descriptorIndex := 26, attributes := #[] }, { accessFlags := 26, nameIndex := 1116, descriptorIndex := 1117, attributes := #[] }, { accessFlags := 24, nameIndex := 40, descriptorIndex := 26, attributes := #[] }, { accessFlags := 26, nameIndex := 1101, descriptorIndex := 1102, attributes := #[] }, { accessFlags := 26, nameIndex := 1121, descriptorIndex := 1122, attributes := #[] }, { accessFlags := 25, nameIndex := 599, descriptorIndex := 600, attributes := #[] }, { accessFlags := 24, nameIndex := 1125, descriptorIndex := 18, attributes := #[] }, { accessFlags := 24, nameIndex := 1127, descriptorIndex := 18, attributes := #[] }])
  fields := #[{ name := "value", type := (.array .byte), accessFlags := 18, slot := 0, constantValue := 0 }, { name := "coder", type := .byte, accessFlags := 18, slot := 1, constantValue := 0 }, { name := "hash", type := .int, accessFlags := 2, slot := 2, constantValue := 0 }, { name := "hashIsZero", type := .boolean, accessFlags := 2, slot := 3, constantValue := 0 }, { name := "serialVersionUID", type := .long, accessFlags := 26, slot := 0, constantValue := 0 }, { name := "COMPACT_STRINGS", type := .boolean, accessFlags := 24, slot := 1, constantValue := 0 }, { name := "serialPersistentFields", type := (.array (.object "java/io/ObjectStreamField")), accessFlags := 26, slot := 2, constantValue := 0 }, { name := "REPL", type := .char, accessFlags := 26, slot := 3, constantValue := 0 }, { name := "CASE_INSENSITIVE_ORDER", type := (.object "java/util/Comparator"), accessFlags := 25, slot := 4, constantValue := 0 }, { name := "LATIN1", type := .byte, accessFlags := 24, slot := 5, constantValue := 0 }, { name := "UTF16", type := .byte, accessFlags := 24, slot := 6, constantValue := 0 }]
  methods := #[k7m0, k7m1, k7m2, k7m3, k7m4, k7m5, k7m6, k7m7, k7m8, k7m9, k7m10, k7m11]
  instanceTypes := #[(.array .byte), .byte, .int, .boolean]
  staticTypes := #[.long, .boolean, (.array (.object "java/io/ObjectStreamField")), .char, (.object "java/util/Comparator"), .byte, .byte]
  resolved := Array.replicate 1451 none
  statics := some 0 }

def pool8 : Array CpInfo := pool [(1, .class_ 2), (0, u "java/lang/String"), (1, .class_ 6), (1, u "java/lang/Object"), (0, u "<init>"), (0, u "()V"), (0, .methodref 1 10), (0, .nameAndType 11 12), (0, u "checkIndex"), (0, u "(II)V"), (1, .class_ 16), (1, u "java/lang/StringLatin1"), (36, u "([BI)C"), (36, u "canEncode"), (14, u "(C)Z"), (15, u "$assertionsDisabled"), (0, u "Z"), (98, .class_ 223), (1, u "java/lang/StringLatin1$LinesSpliterator"), (28, u "charAt"), (127, u "toBytes"), (1, u "(C)[B"), (7, .class_ 391), (0, u "java/lang/StringLatin1$CharsSpliterator")] 3

def k8m0 : Method := { name := "<init>", desc := "()V", sig := { parameters := [], returnType := none }, accessFlags := 0, code := none }
def k8c1 : Code := { maxStack := 2, maxLocals := 2, code := jdk_43_method_2_code, exceptionTable := #[], attributes := #[] }
def k8m1 : Method := { name := "charAt", desc := "([BI)C", sig := { parameters := [(.array .byte), .int], returnType := some .char }, accessFlags := 9, code := some k8c1 }
def k8c2 : Code := { maxStack := 2, maxLocals := 1, code := jdk_43_method_3_code, exceptionTable := #[], attributes := #[] }
def k8m2 : Method := { name := "canEncode", desc := "(C)Z", sig := { parameters := [.char], returnType := some .boolean }, accessFlags := 9, code := some k8c2 }
def k8c3 : Code := { maxStack := 4, maxLocals := 1, code := jdk_43_method_46_code, exceptionTable := #[], attributes := #[] }
def k8m3 : Method := { name := "toBytes", desc := "(C)[B", sig := { parameters := [.char], returnType := some (.array .byte) }, accessFlags := 9, code := some k8c3 }
/-- java/lang/StringLatin1 -/
def k8 : Class := { plain "java/lang/StringLatin1" (some 0) with
  accessFlags := 48
  interfaces := #[]
  cf := some (fileOf pool8 14 #[.nestMembers #[390, 221]] #[{ accessFlags := 0, nameIndex := 7, descriptorIndex := 8, attributes := #[] }, { accessFlags := 9, nameIndex := 252, descriptorIndex := 53, attributes := #[] }, { accessFlags := 9, nameIndex := 90, descriptorIndex := 105, attributes := #[] }, { accessFlags := 9, nameIndex := 380, descriptorIndex := 382, attributes := #[] }] 48 4 #[] #[{ accessFlags := 4120, nameIndex := 121, descriptorIndex := 122, attributes := #[] }])
  fields := #[{ name := "$assertionsDisabled", type := .boolean, accessFlags := 4120, slot := 0, constantValue := 0 }]
  methods := #[k8m0, k8m1, k8m2, k8m3]
  instanceTypes := #[]
  staticTypes := #[.boolean]
  resolved := Array.replicate 395 none
  statics := none }

def pool9 : Array CpInfo := pool [(1, .methodref 2 3), (0, .class_ 4), (0, .nameAndType 5 6), (0, u "java/lang/Object"), (0, u "<init>"), (0, u "()V"), (0, .fieldref 8 9), (0, .class_ 10), (0, .nameAndType 11 12), (0, u "com/example/arbiter/arbiter/Name"), (0, u "text"), (0, u "Ljava/lang/String;"), (0, .string 11), (0, .methodref 15 16), (0, .class_ 17), (0, .nameAndType 18 19), (0, u "java/util/Objects"), (0, u "requireNonNull"), (0, u "(Ljava/lang/Object;Ljava/lang/String;)Ljava/lang/Object;"), (0, .methodref 21 22), (0, .class_ 23), (0, .nameAndType 24 25), (0, u "java/lang/String"), (0, u "isEmpty"), (0, u "()Z"), (5, .nameAndType 5 32), (0, u "(Ljava/lang/String;)V"), (0, .methodref 21 34), (0, .nameAndType 35 36), (0, u "length"), (0, u "()I"), (0, .methodref 21 38), (0, .nameAndType 39 40), (0, u "codePointCount"), (0, u "(II)I"), (8, .methodref 8 50), (0, .nameAndType 51 52), (0, u "firstForbidden"), (0, u "(Ljava/lang/String;)I"), (20, .methodref 8 31), (2, u "CODE_POINT_ORDER"), (0, u "Ljava/util/Comparator;"), (59, .methodref 21 138), (0, .nameAndType 139 140), (0, u "charAt"), (0, u "(I)C"), (37, u "toString"), (0, u "()Ljava/lang/String;"), (7, .class_ 188), (0, u "java/lang/Comparable"), (0, u "MAX_LENGTH"), (0, u "I"), (4, u "EXCERPT_LENGTH"), (3, u "of"), (0, u "(Ljava/lang/String;)Lcom/example/arbiter/arbiter/Name;")] 47

def k9c0 : Code := { maxStack := 2, maxLocals := 2, code := prog_20_method_1_code, exceptionTable := #[], attributes := #[] }
def k9m0 : Method := { name := "<init>", desc := "(Ljava/lang/String;)V", sig := { parameters := [(.object "java/lang/String")], returnType := none }, accessFlags := 2, code := some k9c0 }
def k9c1 : Code := { maxStack := 5, maxLocals := 5, code := prog_20_method_2_code, exceptionTable := #[], attributes := #[] }
def k9m1 : Method := { name := "of", desc := "(Ljava/lang/String;)Lcom/example/arbiter/arbiter/Name;", sig := { parameters := [(.object "java/lang/String")], returnType := some (.object "com/example/arbiter/arbiter/Name") }, accessFlags := 9, code := some k9c1 }
def k9c2 : Code := { maxStack := 1, maxLocals := 1, code := prog_20_method_6_code, exceptionTable := #[], attributes := #[] }
def k9m2 : Method := { name := "toString", desc := "()Ljava/lang/String;", sig := { parameters := [], returnType := some (.object "java/lang/String") }, accessFlags := 1, code := some k9c2 }
def k9c3 : Code := { maxStack := 2, maxLocals := 4, code := prog_20_method_9_code, exceptionTable := #[], attributes := #[] }
def k9m3 : Method := { name := "firstForbidden", desc := "(Ljava/lang/String;)I", sig := { parameters := [(.object "java/lang/String")], returnType := some .int }, accessFlags := 10, code := some k9c3 }
/-- com/example/arbiter/arbiter/Name -/
def k9 : Class := { plain "com/example/arbiter/arbiter/Name" (some 0) with
  accessFlags := 33
  interfaces := #[3]
  cf := some (fileOf pool9 8 #[] #[{ accessFlags := 2, nameIndex := 5, descriptorIndex := 32, attributes := #[] }, { accessFlags := 9, nameIndex := 199, descriptorIndex := 200, attributes := #[] }, { accessFlags := 1, nameIndex := 178, descriptorIndex := 179, attributes := #[] }, { accessFlags := 10, nameIndex := 51, descriptorIndex := 52, attributes := #[] }] 33 2 #[187] #[{ accessFlags := 25, nameIndex := 189, descriptorIndex := 190, attributes := #[] }, { accessFlags := 24, nameIndex := 76, descriptorIndex := 77, attributes := #[] }, { accessFlags := 26, nameIndex := 195, descriptorIndex := 190, attributes := #[] }, { accessFlags := 18, nameIndex := 11, descriptorIndex := 12, attributes := #[] }])
  fields := #[{ name := "MAX_LENGTH", type := .int, accessFlags := 25, slot := 0, constantValue := 0 }, { name := "CODE_POINT_ORDER", type := (.object "java/util/Comparator"), accessFlags := 24, slot := 1, constantValue := 0 }, { name := "EXCERPT_LENGTH", type := .int, accessFlags := 26, slot := 2, constantValue := 0 }, { name := "text", type := (.object "java/lang/String"), accessFlags := 18, slot := 0, constantValue := 0 }]
  methods := #[k9m0, k9m1, k9m2, k9m3]
  instanceTypes := #[(.object "java/lang/String")]
  staticTypes := #[.int, (.object "java/util/Comparator"), .int]
  resolved := Array.replicate 248 none
  statics := none }

def pool10 : Array CpInfo := pool [(2, .class_ 4), (1, u "java/lang/Object"), (0, u "<init>"), (0, u "()V"), (35, .class_ 44), (1, u "java/util/Objects"), (0, u "requireNonNull"), (48, u "(Ljava/lang/Object;Ljava/lang/String;)Ljava/lang/Object;"), (11, .class_ 108), (1, u "jdk/internal/util/Preconditions"), (2, .methodref 106 112), (0, .nameAndType 113 114), (0, u "checkFromToIndex"), (0, u "(IIILjava/util/function/BiFunction;)I"), (60, u "(III)I")] 8

def k10m0 : Method := { name := "<init>", desc := "()V", sig := { parameters := [], returnType := none }, accessFlags := 2, code := none }
def k10c1 : Code := { maxStack := 3, maxLocals := 2, code := jdk_31_method_11_code, exceptionTable := #[], attributes := #[] }
def k10m1 : Method := { name := "requireNonNull", desc := "(Ljava/lang/Object;Ljava/lang/String;)Ljava/lang/Object;", sig := { parameters := [(.object "java/lang/Object"), (.object "java/lang/String")], returnType := some (.object "java/lang/Object") }, accessFlags := 9, code := some k10c1 }
def k10c2 : Code := { maxStack := 4, maxLocals := 3, code := jdk_31_method_18_code, exceptionTable := #[], attributes := #[] }
def k10m2 : Method := { name := "checkFromToIndex", desc := "(III)I", sig := { parameters := [.int, .int, .int], returnType := some .int }, accessFlags := 9, code := some k10c2 }
/-- java/util/Objects -/
def k10 : Class := { plain "java/util/Objects" (some 0) with
  accessFlags := 49
  interfaces := #[]
  cf := some (fileOf pool10 42 #[] #[{ accessFlags := 2, nameIndex := 5, descriptorIndex := 6, attributes := #[] }, { accessFlags := 9, nameIndex := 45, descriptorIndex := 94, attributes := #[] }, { accessFlags := 9, nameIndex := 113, descriptorIndex := 175, attributes := #[] }] 49 2 #[] #[])
  fields := #[]
  methods := #[k10m0, k10m1, k10m2]
  instanceTypes := #[]
  staticTypes := #[]
  resolved := Array.replicate 184 none
  statics := none }

def pool11 : Array CpInfo := pool [(2, .class_ 4), (1, u "java/lang/Object"), (0, u "<init>"), (0, u "()V"), (17, .class_ 26), (1, u "jdk/internal/util/Preconditions"), (6, u "checkIndex"), (13, u "checkFromToIndex"), (7, .class_ 56), (0, u "jdk/internal/util/Preconditions$4"), (57, .class_ 115), (0, u "jdk/internal/util/Preconditions$1"), (7, u "SIOOBE_FORMATTER"), (0, u "Ljava/util/function/BiFunction;"), (0, .class_ 126), (0, u "jdk/internal/util/Preconditions$2"), (3, u "AIOOBE_FORMATTER"), (0, .class_ 132), (0, u "jdk/internal/util/Preconditions$3"), (3, u "IOOBE_FORMATTER"), (41, u "(IILjava/util/function/BiFunction;)I"), (4, u "(IIILjava/util/function/BiFunction;)I")] 10

def k11m0 : Method := { name := "<init>", desc := "()V", sig := { parameters := [], returnType := none }, accessFlags := 1, code := none }
def k11c1 : Code := { maxStack := 3, maxLocals := 3, code := jdk_41_method_11_code, exceptionTable := #[], attributes := #[] }
def k11m1 : Method := { name := "checkIndex", desc := "(IILjava/util/function/BiFunction;)I", sig := { parameters := [.int, .int, (.object "java/util/function/BiFunction")], returnType := some .int }, accessFlags := 9, code := some k11c1 }
def k11c2 : Code := { maxStack := 4, maxLocals := 4, code := jdk_41_method_12_code, exceptionTable := #[], attributes := #[] }
def k11m2 : Method := { name := "checkFromToIndex", desc := "(IIILjava/util/function/BiFunction;)I", sig := { parameters := [.int, .int, .int, (.object "java/util/function/BiFunction")], returnType := some .int }, accessFlags := 9, code := some k11c2 }
/-- jdk/internal/util/Preconditions -/
def k11 : Class := { plain "jdk/internal/util/Preconditions" (some 0) with
  accessFlags := 33
  interfaces := #[]
  cf := some (fileOf pool11 24 #[.nestMembers #[55, 131, 125, 114]] #[{ accessFlags := 1, nameIndex := 5, descriptorIndex := 6, attributes := #[] }, { accessFlags := 9, nameIndex := 33, descriptorIndex := 178, attributes := #[] }, { accessFlags := 9, nameIndex := 47, descriptorIndex := 183, attributes := #[] }] 33 2 #[] #[{ accessFlags := 25, nameIndex := 123, descriptorIndex := 124, attributes := #[] }, { accessFlags := 25, nameIndex := 130, descriptorIndex := 124, attributes := #[] }, { accessFlags := 25, nameIndex := 136, descriptorIndex := 124, attributes := #[] }])
  fields := #[{ name := "SIOOBE_FORMATTER", type := (.object "java/util/function/BiFunction"), accessFlags := 25, slot := 0, constantValue := 0 }, { name := "AIOOBE_FORMATTER", type := (.object "java/util/function/BiFunction"), accessFlags := 25, slot := 1, constantValue := 0 }, { name := "IOOBE_FORMATTER", type := (.object "java/util/function/BiFunction"), accessFlags := 25, slot := 2, constantValue := 0 }]
  methods := #[k11m0, k11m1, k11m2]
  instanceTypes := #[]
  staticTypes := #[(.object "java/util/function/BiFunction"), (.object "java/util/function/BiFunction"), (.object "java/util/function/BiFunction")]
  resolved := Array.replicate 194 none
  statics := some 1 }

def pool12 : Array CpInfo := pool [(6, .class_ 8), (1, u "java/lang/Object"), (0, u "<init>"), (0, u "()V"), (1, .class_ 14), (1, u "java/lang/StringUTF16"), (31, u "$assertionsDisabled"), (0, u "Z"), (13, u "HI_BYTE_SHIFT"), (0, u "I"), (2, u "LO_BYTE_SHIFT"), (49, .methodref 12 116), (0, .nameAndType 117 118), (0, u "compress"), (0, u "([CI[BII)I"), (3, u "([CII)[B"), (138, u "coderFromArrayLen"), (0, u "([BI)B"), (106, .class_ 371), (1, u "java/lang/StringUTF16$LinesSpliterator"), (58, u "MAX_LENGTH"), (196, .class_ 628), (0, u "java/lang/StringUTF16$CodePointsSpliterator"), (0, .class_ 630), (0, u "java/lang/StringUTF16$CharsSpliterator")] 4

def k12m0 : Method := { name := "<init>", desc := "()V", sig := { parameters := [], returnType := none }, accessFlags := 0, code := none }
def k12c1 : Code := { maxStack := 2, maxLocals := 2, code := jdk_52_method_15_code, exceptionTable := #[], attributes := #[] }
def k12m1 : Method := { name := "coderFromArrayLen", desc := "([BI)B", sig := { parameters := [(.array .byte), .int], returnType := some .byte }, accessFlags := 8, code := some k12c1 }
def k12c2 : Code := { maxStack := 5, maxLocals := 6, code := jdk_52_method_16_code, exceptionTable := #[], attributes := #[] }
def k12m2 : Method := { name := "compress", desc := "([CII)[B", sig := { parameters := [(.array .char), .int, .int], returnType := some (.array .byte) }, accessFlags := 9, code := some k12c2 }
def k12c3 : Code := { maxStack := 3, maxLocals := 7, code := jdk_52_method_21_code, exceptionTable := #[], attributes := #[] }
def k12m3 : Method := { name := "compress", desc := "([CI[BII)I", sig := { parameters := [(.array .char), .int, (.array .byte), .int, .int], returnType := some .int }, accessFlags := 9, code := some k12c3 }
/-- java/lang/StringUTF16 -/
def k12 : Class := { plain "java/lang/StringUTF16" (some 0) with
  accessFlags := 48
  interfaces := #[]
  cf := some (fileOf pool12 12 #[.nestMembers #[627, 629, 369]] #[{ accessFlags := 0, nameIndex := 9, descriptorIndex := 10, attributes := #[] }, { accessFlags := 8, nameIndex := 261, descriptorIndex := 262, attributes := #[] }, { accessFlags := 9, nameIndex := 117, descriptorIndex := 122, attributes := #[] }, { accessFlags := 9, nameIndex := 117, descriptorIndex := 118, attributes := #[] }] 48 6 #[] #[{ accessFlags := 26, nameIndex := 61, descriptorIndex := 62, attributes := #[] }, { accessFlags := 26, nameIndex := 65, descriptorIndex := 62, attributes := #[] }, { accessFlags := 24, nameIndex := 430, descriptorIndex := 62, attributes := #[] }, { accessFlags := 4120, nameIndex := 46, descriptorIndex := 47, attributes := #[] }])
  fields := #[{ name := "HI_BYTE_SHIFT", type := .int, accessFlags := 26, slot := 0, constantValue := 0 }, { name := "LO_BYTE_SHIFT", type := .int, accessFlags := 26, slot := 1, constantValue := 0 }, { name := "MAX_LENGTH", type := .int, accessFlags := 24, slot := 2, constantValue := 0 }, { name := "$assertionsDisabled", type := .boolean, accessFlags := 4120, slot := 3, constantValue := 0 }]
  methods := #[k12m0, k12m1, k12m2, k12m3]
  instanceTypes := #[]
  staticTypes := #[.int, .int, .int, .boolean]
  resolved := Array.replicate 635 none
  statics := none }

def pool13 : Array CpInfo := pool [(10, u "()I"), (1, .class_ 14), (1, u "com/example/arbiter/arbiter/OrdinalTable"), (0, u "<init>"), (0, u "(I)V"), (0, .methodref 18 19), (0, .class_ 20), (0, .nameAndType 15 21), (0, u "java/lang/Object"), (0, u "()V"), (0, .fieldref 12 23), (0, .nameAndType 24 25), (0, u "slots"), (0, u "[I"), (0, .fieldref 12 27), (0, .nameAndType 28 29), (0, u "values"), (0, u "[Ljava/lang/Object;"), (0, .fieldref 12 31), (0, .nameAndType 32 25), (0, u "records"), (0, .fieldref 12 34), (0, .nameAndType 35 36), (0, u "used"), (0, u "I"), (0, .fieldref 12 38), (0, .nameAndType 39 36), (0, u "seed"), (6, .methodref 47 48), (0, .class_ 49), (0, .nameAndType 50 51), (0, u "java/lang/System"), (0, u "arraycopy"), (0, u "(Ljava/lang/Object;ILjava/lang/Object;II)V"), (0, .methodref 53 54), (0, .class_ 55), (0, .nameAndType 56 57), (0, u "com/example/arbiter/arbiter/Name"), (0, u "toString"), (0, u "()Ljava/lang/String;"), (0, .methodref 12 59), (0, .nameAndType 60 61), (0, u "find"), (0, u "(Ljava/lang/String;Ljava/lang/String;)I"), (9, .fieldref 12 72), (0, .nameAndType 73 36), (0, u "size"), (11, .methodref 12 86), (0, .nameAndType 87 88), (0, u "put"), (0, u "(Ljava/lang/String;Ljava/lang/String;Ljava/lang/Object;[I)V"), (4, .methodref 12 94), (0, .nameAndType 95 61), (0, u "hash"), (0, .methodref 12 97), (0, .nameAndType 60 98), (0, u "(ILjava/lang/String;Ljava/lang/String;)I"), (0, .methodref 12 100), (0, .nameAndType 101 102), (0, u "matches"), (0, u "(ILjava/lang/String;Ljava/lang/String;)Z"), (3, .methodref 12 107), (0, .nameAndType 108 109), (0, u "emptySlot"), (0, u "(I)I"), (0, .fieldref 12 111), (0, .nameAndType 112 36), (0, u "unused"), (3, .methodref 12 117), (0, .nameAndType 118 119), (0, u "write"), (0, u "(Ljava/lang/String;Ljava/lang/String;[I)I"), (0, .methodref 12 121), (0, .nameAndType 122 21), (0, u "packWhereMostlyUnused"), (8, u "(II)I"), (0, .methodref 12 133), (0, .nameAndType 134 135), (0, u "textLength"), (0, u "(Ljava/lang/String;)I"), (4, .methodref 12 141), (0, .nameAndType 142 143), (0, u "writeText"), (0, u "(ILjava/lang/String;)I"), (0, .methodref 145 146), (0, .class_ 147), (0, .nameAndType 148 10), (0, u "java/lang/String"), (0, u "length"), (0, .methodref 12 150), (0, .nameAndType 151 152), (0, u "word"), (0, u "(Ljava/lang/String;I)I"), (0, .methodref 12 154), (0, .nameAndType 155 143), (0, u "matchesText"), (0, .methodref 145 157), (0, .nameAndType 158 159), (0, u "charAt"), (0, u "(I)C"), (0, .methodref 12 161), (0, .nameAndType 162 143), (0, u "mixText"), (0, .integer 2246822507), (0, .integer 2654435761), (0, u "ABSENT"), (2, u "FIRST_CAPACITY"), (1, u "NO_RECORD"), (1, u "SPARE_RECORDS"), (5, u "(Lcom/example/arbiter/arbiter/Name;)I"), (4, u "ordinal"), (6, u "(Lcom/example/arbiter/arbiter/Name;Ljava/lang/Object;[I)V")] 11

def k13m0 : Method := { name := "<init>", desc := "()V", sig := { parameters := [], returnType := none }, accessFlags := 0, code := none }
def k13c1 : Code := { maxStack := 2, maxLocals := 2, code := prog_25_method_2_code, exceptionTable := #[], attributes := #[] }
def k13m1 : Method := { name := "<init>", desc := "(I)V", sig := { parameters := [.int], returnType := none }, accessFlags := 0, code := some k13c1 }
def k13c2 : Code := { maxStack := 3, maxLocals := 2, code := prog_25_method_5_code, exceptionTable := #[], attributes := #[] }
def k13m2 : Method := { name := "find", desc := "(Lcom/example/arbiter/arbiter/Name;)I", sig := { parameters := [(.object "com/example/arbiter/arbiter/Name")], returnType := some .int }, accessFlags := 0, code := some k13c2 }
def k13c3 : Code := { maxStack := 4, maxLocals := 3, code := prog_25_method_9_code, exceptionTable := #[], attributes := #[] }
def k13m3 : Method := { name := "ordinal", desc := "(II)I", sig := { parameters := [.int, .int], returnType := some .int }, accessFlags := 0, code := some k13c3 }
def k13c4 : Code := { maxStack := 5, maxLocals := 4, code := prog_25_method_13_code, exceptionTable := #[], attributes := #[] }
def k13m4 : Method := { name := "put", desc := "(Lcom/example/arbiter/arbiter/Name;Ljava/lang/Object;[I)V", sig := { parameters := [(.object "com/example/arbiter/arbiter/Name"), (.object "java/lang/Object"), (.array .int)], returnType := none }, accessFlags := 0, code := some k13c4 }
def k13c5 : Code := { maxStack := 4, maxLocals := 3, code := prog_25_method_17_code, exceptionTable := #[], attributes := #[] }
def k13m5 : Method := { name := "find", desc := "(Ljava/lang/String;Ljava/lang/String;)I", sig := { parameters := [(.object "java/lang/String"), (.object "java/lang/String")], returnType := some .int }, accessFlags := 2, code := some k13c5 }
def k13c6 : Code := { maxStack := 4, maxLocals := 7, code := prog_25_method_18_code, exceptionTable := #[], attributes := #[] }
def k13m6 : Method := { name := "find", desc := "(ILjava/lang/String;Ljava/lang/String;)I", sig := { parameters := [.int, (.object "java/lang/String"), (.object "java/lang/String")], returnType := some .int }, accessFlags := 2, code := some k13c6 }
def k13c7 : Code := { maxStack := 6, maxLocals := 7, code := prog_25_method_19_code, exceptionTable := #[], attributes := #[] }
def k13m7 : Method := { name := "put", desc := "(Ljava/lang/String;Ljava/lang/String;Ljava/lang/Object;[I)V", sig := { parameters := [(.object "java/lang/String"), (.object "java/lang/String"), (.object "java/lang/Object"), (.array .int)], returnType := none }, accessFlags := 2, code := some k13c7 }
def k13c8 : Code := { maxStack := 3, maxLocals := 4, code := prog_25_method_22_code, exceptionTable := #[], attributes := #[] }
def k13m8 : Method := { name := "emptySlot", desc := "(I)I", sig := { parameters := [.int], returnType := some .int }, accessFlags := 2, code := some k13c8 }
def k13c9 : Code := { maxStack := 5, maxLocals := 6, code := prog_25_method_24_code, exceptionTable := #[], attributes := #[] }
def k13m9 : Method := { name := "packWhereMostlyUnused", desc := "()V", sig := { parameters := [], returnType := none }, accessFlags := 2, code := some k13c9 }
def k13c10 : Code := { maxStack := 5, maxLocals := 7, code := prog_25_method_25_code, exceptionTable := #[], attributes := #[] }
def k13m10 : Method := { name := "write", desc := "(Ljava/lang/String;Ljava/lang/String;[I)I", sig := { parameters := [(.object "java/lang/String"), (.object "java/lang/String"), (.array .int)], returnType := some .int }, accessFlags := 2, code := some k13c10 }
def k13c11 : Code := { maxStack := 4, maxLocals := 5, code := prog_25_method_26_code, exceptionTable := #[], attributes := #[] }
def k13m11 : Method := { name := "writeText", desc := "(ILjava/lang/String;)I", sig := { parameters := [.int, (.object "java/lang/String")], returnType := some .int }, accessFlags := 2, code := some k13c11 }
def k13c12 : Code := { maxStack := 4, maxLocals := 6, code := prog_25_method_27_code, exceptionTable := #[], attributes := #[] }
def k13m12 : Method := { name := "matches", desc := "(ILjava/lang/String;Ljava/lang/String;)Z", sig := { parameters := [.int, (.object "java/lang/String"), (.object "java/lang/String")], returnType := some .boolean }, accessFlags := 2, code := some k13c12 }
def k13c13 : Code := { maxStack := 3, maxLocals := 6, code := prog_25_method_28_code, exceptionTable := #[], attributes := #[] }
def k13m13 : Method := { name := "matchesText", desc := "(ILjava/lang/String;)I", sig := { parameters := [.int, (.object "java/lang/String")], returnType := some .int }, accessFlags := 2, code := some k13c13 }
def k13c14 : Code := { maxStack := 3, maxLocals := 2, code := prog_25_method_30_code, exceptionTable := #[], attributes := #[] }
def k13m14 : Method := { name := "textLength", desc := "(Ljava/lang/String;)I", sig := { parameters := [(.object "java/lang/String")], returnType := some .int }, accessFlags := 10, code := some k13c14 }
def k13c15 : Code := { maxStack := 4, maxLocals := 3, code := prog_25_method_31_code, exceptionTable := #[], attributes := #[] }
def k13m15 : Method := { name := "word", desc := "(Ljava/lang/String;I)I", sig := { parameters := [(.object "java/lang/String"), .int], returnType := some .int }, accessFlags := 10, code := some k13c15 }
def k13c16 : Code := { maxStack := 3, maxLocals := 4, code := prog_25_method_32_code, exceptionTable := #[], attributes := #[] }
def k13m16 : Method := { name := "hash", desc := "(Ljava/lang/String;Ljava/lang/String;)I", sig := { parameters := [(.object "java/lang/String"), (.object "java/lang/String")], returnType := some .int }, accessFlags := 2, code := some k13c16 }
def k13c17 : Code := { maxStack := 3, maxLocals := 4, code := prog_25_method_33_code, exceptionTable := #[], attributes := #[] }
def k13m17 : Method := { name := "mixText", desc := "(ILjava/lang/String;)I", sig := { parameters := [.int, (.object "java/lang/String")], returnType := some .int }, accessFlags := 10, code := some k13c17 }
/-- com/example/arbiter/arbiter/OrdinalTable -/
def k13 : Class := { plain "com/example/arbiter/arbiter/OrdinalTable" (some 0) with
  accessFlags := 32
  interfaces := #[]
  cf := some (fileOf pool13 12 #[] #[{ accessFlags := 0, nameIndex := 15, descriptorIndex := 21, attributes := #[] }, { accessFlags := 0, nameIndex := 15, descriptorIndex := 16, attributes := #[] }, { accessFlags := 0, nameIndex := 60, descriptorIndex := 178, attributes := #[] }, { accessFlags := 0, nameIndex := 183, descriptorIndex := 131, attributes := #[] }, { accessFlags := 0, nameIndex := 87, descriptorIndex := 190, attributes := #[] }, { accessFlags := 2, nameIndex := 60, descriptorIndex := 61, attributes := #[] }, { accessFlags := 2, nameIndex := 60, descriptorIndex := 98, attributes := #[] }, { accessFlags := 2, nameIndex := 87, descriptorIndex := 88, attributes := #[] }, { accessFlags := 2, nameIndex := 108, descriptorIndex := 109, attributes := #[] }, { accessFlags := 2, nameIndex := 122, descriptorIndex := 21, attributes := #[] }, { accessFlags := 2, nameIndex := 118, descriptorIndex := 119, attributes := #[] }, { accessFlags := 2, nameIndex := 142, descriptorIndex := 143, attributes := #[] }, { accessFlags := 2, nameIndex := 101, descriptorIndex := 102, attributes := #[] }, { accessFlags := 2, nameIndex := 155, descriptorIndex := 143, attributes := #[] }, { accessFlags := 10, nameIndex := 134, descriptorIndex := 135, attributes := #[] }, { accessFlags := 10, nameIndex := 151, descriptorIndex := 152, attributes := #[] }, { accessFlags := 2, nameIndex := 95, descriptorIndex := 61, attributes := #[] }, { accessFlags := 10, nameIndex := 162, descriptorIndex := 143, attributes := #[] }] 32 18 #[] #[{ accessFlags := 24, nameIndex := 165, descriptorIndex := 36, attributes := #[] }, { accessFlags := 26, nameIndex := 168, descriptorIndex := 36, attributes := #[] }, { accessFlags := 26, nameIndex := 170, descriptorIndex := 36, attributes := #[] }, { accessFlags := 26, nameIndex := 172, descriptorIndex := 36, attributes := #[] }, { accessFlags := 18, nameIndex := 39, descriptorIndex := 36, attributes := #[] }, { accessFlags := 2, nameIndex := 24, descriptorIndex := 25, attributes := #[] }, { accessFlags := 2, nameIndex := 28, descriptorIndex := 29, attributes := #[] }, { accessFlags := 2, nameIndex := 32, descriptorIndex := 25, attributes := #[] }, { accessFlags := 2, nameIndex := 35, descriptorIndex := 36, attributes := #[] }, { accessFlags := 2, nameIndex := 112, descriptorIndex := 36, attributes := #[] }, { accessFlags := 2, nameIndex := 73, descriptorIndex := 36, attributes := #[] }])
  fields := #[{ name := "ABSENT", type := .int, accessFlags := 24, slot := 0, constantValue := 0 }, { name := "FIRST_CAPACITY", type := .int, accessFlags := 26, slot := 1, constantValue := 0 }, { name := "NO_RECORD", type := .int, accessFlags := 26, slot := 2, constantValue := 0 }, { name := "SPARE_RECORDS", type := .int, accessFlags := 26, slot := 3, constantValue := 0 }, { name := "seed", type := .int, accessFlags := 18, slot := 0, constantValue := 0 }, { name := "slots", type := (.array .int), accessFlags := 2, slot := 1, constantValue := 0 }, { name := "values", type := (.array (.object "java/lang/Object")), accessFlags := 2, slot := 2, constantValue := 0 }, { name := "records", type := (.array .int), accessFlags := 2, slot := 3, constantValue := 0 }, { name := "used", type := .int, accessFlags := 2, slot := 4, constantValue := 0 }, { name := "unused", type := .int, accessFlags := 2, slot := 5, constantValue := 0 }, { name := "size", type := .int, accessFlags := 2, slot := 6, constantValue := 0 }]
  methods := #[k13m0, k13m1, k13m2, k13m3, k13m4, k13m5, k13m6, k13m7, k13m8, k13m9, k13m10, k13m11, k13m12, k13m13, k13m14, k13m15, k13m16, k13m17]
  instanceTypes := #[.int, (.array .int), (.array (.object "java/lang/Object")), (.array .int), .int, .int, .int]
  staticTypes := #[.int, .int, .int, .int]
  resolved := Array.replicate 202 none
  statics := none }

def pool14 : Array CpInfo := pool [(2, .class_ 4), (1, u "java/lang/Object"), (0, u "<init>"), (0, u "()V"), (1, .class_ 10), (1, u "java/lang/System"), (0, u "allowSecurityManager"), (0, u "I"), (16, u "cons"), (0, u "Ljava/io/Console;"), (77, .class_ 110), (1, u "java/lang/System$CallersHolder"), (43, u "initialErrStream"), (0, u "Ljava/io/PrintStream;"), (19, u "security"), (0, u "Ljava/lang/SecurityManager;"), (31, .class_ 209), (0, u "java/lang/System$1"), (7, u "props"), (0, u "Ljava/util/Properties;"), (2, u "lineSeparator"), (0, u "Ljava/lang/String;"), (96, .class_ 321), (1, u "java/lang/System$LoggerFinder"), (5, .class_ 328), (0, u "java/lang/System$Logger"), (67, u "err"), (2, u "out"), (91, u "notSupportedJnuEncoding"), (15, u "in"), (17, u "initialIn"), (0, u "Ljava/io/InputStream;"), (35, u "bootLayer"), (0, u "Ljava/lang/ModuleLayer;"), (99, .class_ 664), (0, u "java/lang/System$2"), (9, u "NEVER"), (2, u "MAYBE"), (49, u "arraycopy"), (0, u "(Ljava/lang/Object;ILjava/lang/Object;II)V"), (72, .class_ 802), (0, u "java/lang/System$Logger$Level")] 31

def k14m0 : Method := { name := "<init>", desc := "()V", sig := { parameters := [], returnType := none }, accessFlags := 2, code := none }
def k14m1 : Method := { name := "arraycopy", desc := "(Ljava/lang/Object;ILjava/lang/Object;II)V", sig := { parameters := [(.object "java/lang/Object"), .int, (.object "java/lang/Object"), .int, .int], returnType := none }, accessFlags := 265, code := none }
/-- java/lang/System -/
def k14 : Class := { plain "java/lang/System" (some 0) with
  accessFlags := 49
  interfaces := #[]
  cf := some (fileOf pool14 8 #[.nestMembers #[319, 327, 801, 108, 663, 208]] #[{ accessFlags := 2, nameIndex := 5, descriptorIndex := 6, attributes := #[] }, { accessFlags := 265, nameIndex := 727, descriptorIndex := 728, attributes := #[] }] 49 2 #[] #[{ accessFlags := 25, nameIndex := 507, descriptorIndex := 526, attributes := #[] }, { accessFlags := 25, nameIndex := 399, descriptorIndex := 155, attributes := #[] }, { accessFlags := 25, nameIndex := 396, descriptorIndex := 155, attributes := #[] }, { accessFlags := 10, nameIndex := 525, descriptorIndex := 526, attributes := #[] }, { accessFlags := 26, nameIndex := 674, descriptorIndex := 12, attributes := #[] }, { accessFlags := 26, nameIndex := 677, descriptorIndex := 12, attributes := #[] }, { accessFlags := 10, nameIndex := 11, descriptorIndex := 12, attributes := #[] }, { accessFlags := 74, nameIndex := 175, descriptorIndex := 176, attributes := #[] }, { accessFlags := 10, nameIndex := 491, descriptorIndex := 222, attributes := #[] }, { accessFlags := 74, nameIndex := 29, descriptorIndex := 30, attributes := #[] }, { accessFlags := 74, nameIndex := 154, descriptorIndex := 155, attributes := #[] }, { accessFlags := 10, nameIndex := 217, descriptorIndex := 218, attributes := #[] }, { accessFlags := 10, nameIndex := 221, descriptorIndex := 222, attributes := #[] }, { accessFlags := 8, nameIndex := 562, descriptorIndex := 563, attributes := #[] }])
  fields := #[{ name := "in", type := (.object "java/io/InputStream"), accessFlags := 25, slot := 0, constantValue := 0 }, { name := "out", type := (.object "java/io/PrintStream"), accessFlags := 25, slot := 1, constantValue := 0 }, { name := "err", type := (.object "java/io/PrintStream"), accessFlags := 25, slot := 2, constantValue := 0 }, { name := "initialIn", type := (.object "java/io/InputStream"), accessFlags := 10, slot := 3, constantValue := 0 }, { name := "NEVER", type := .int, accessFlags := 26, slot := 4, constantValue := 0 }, { name := "MAYBE", type := .int, accessFlags := 26, slot := 5, constantValue := 0 }, { name := "allowSecurityManager", type := .int, accessFlags := 10, slot := 6, constantValue := 0 }, { name := "security", type := (.object "java/lang/SecurityManager"), accessFlags := 74, slot := 7, constantValue := 0 }, { name := "notSupportedJnuEncoding", type := (.object "java/lang/String"), accessFlags := 10, slot := 8, constantValue := 0 }, { name := "cons", type := (.object "java/io/Console"), accessFlags := 74, slot := 9, constantValue := 0 }, { name := "initialErrStream", type := (.object "java/io/PrintStream"), accessFlags := 74, slot := 10, constantValue := 0 }, { name := "props", type := (.object "java/util/Properties"), accessFlags := 10, slot := 11, constantValue := 0 }, { name := "lineSeparator", type := (.object "java/lang/String"), accessFlags := 10, slot := 12, constantValue := 0 }, { name := "bootLayer", type := (.object "java/lang/ModuleLayer"), accessFlags := 8, slot := 13, constantValue := 0 }]
  methods := #[k14m0, k14m1]
  instanceTypes := #[]
  staticTypes := #[(.object "java/io/InputStream"), (.object "java/io/PrintStream"), (.object "java/io/PrintStream"), (.object "java/io/InputStream"), .int, .int, .int, (.object "java/lang/SecurityManager"), (.object "java/lang/String"), (.object "java/io/Console"), (.object "java/io/PrintStream"), (.object "java/util/Properties"), (.object "java/lang/String"), (.object "java/lang/ModuleLayer")]
  resolved := Array.replicate 834 none
  statics := none }

def pool15 : Array CpInfo := pool [(9, u "<init>"), (6, .class_ 18), (1, u "java/lang/Object"), (0, u "()V"), (1, .class_ 23), (1, u "jdk/internal/util/ArraysSupport"), (0, u "LOG2_ARRAY_LONG_INDEX_SCALE"), (0, u "I"), (2, u "U"), (0, u "Ljdk/internal/misc/Unsafe;"), (8, u "BIG_ENDIAN"), (0, u "Z"), (8, u "LOG2_BYTE_BIT_SIZE"), (4, u "LOG2_ARRAY_INT_INDEX_SCALE"), (54, u "JLA"), (0, u "Ljdk/internal/access/JavaLangAccess;"), (11, u "LOG2_ARRAY_BOOLEAN_INDEX_SCALE"), (9, u "LOG2_ARRAY_BYTE_INDEX_SCALE"), (5, u "LOG2_ARRAY_CHAR_INDEX_SCALE"), (5, u "LOG2_ARRAY_SHORT_INDEX_SCALE"), (18, u "LOG2_ARRAY_FLOAT_INDEX_SCALE"), (24, u "LOG2_ARRAY_DOUBLE_INDEX_SCALE"), (89, u "T_BOOLEAN"), (2, u "T_CHAR"), (1, u "T_FLOAT"), (1, u "T_DOUBLE"), (1, u "T_BYTE"), (1, u "T_SHORT"), (1, u "T_INT"), (1, u "T_LONG"), (1, u "SOFT_MAX_ARRAY_LENGTH")] 83

def k15m0 : Method := { name := "<init>", desc := "()V", sig := { parameters := [], returnType := none }, accessFlags := 2, code := none }
/-- jdk/internal/util/ArraysSupport -/
def k15 : Class := { plain "jdk/internal/util/ArraysSupport" (some 0) with
  accessFlags := 33
  interfaces := #[]
  cf := some (fileOf pool15 21 #[] #[{ accessFlags := 2, nameIndex := 9, descriptorIndex := 19, attributes := #[] }] 33 16 #[] #[{ accessFlags := 24, nameIndex := 28, descriptorIndex := 29, attributes := #[] }, { accessFlags := 26, nameIndex := 38, descriptorIndex := 39, attributes := #[] }, { accessFlags := 25, nameIndex := 121, descriptorIndex := 25, attributes := #[] }, { accessFlags := 25, nameIndex := 131, descriptorIndex := 25, attributes := #[] }, { accessFlags := 25, nameIndex := 137, descriptorIndex := 25, attributes := #[] }, { accessFlags := 25, nameIndex := 143, descriptorIndex := 25, attributes := #[] }, { accessFlags := 25, nameIndex := 53, descriptorIndex := 25, attributes := #[] }, { accessFlags := 25, nameIndex := 24, descriptorIndex := 25, attributes := #[] }, { accessFlags := 25, nameIndex := 162, descriptorIndex := 25, attributes := #[] }, { accessFlags := 25, nameIndex := 187, descriptorIndex := 25, attributes := #[] }, { accessFlags := 26, nameIndex := 48, descriptorIndex := 25, attributes := #[] }, { accessFlags := 25, nameIndex := 277, descriptorIndex := 25, attributes := #[] }, { accessFlags := 25, nameIndex := 280, descriptorIndex := 25, attributes := #[] }, { accessFlags := 25, nameIndex := 282, descriptorIndex := 25, attributes := #[] }, { accessFlags := 25, nameIndex := 284, descriptorIndex := 25, attributes := #[] }, { accessFlags := 25, nameIndex := 286, descriptorIndex := 25, attributes := #[] }, { accessFlags := 25, nameIndex := 288, descriptorIndex := 25, attributes := #[] }, { accessFlags := 25, nameIndex := 290, descriptorIndex := 25, attributes := #[] }, { accessFlags := 25, nameIndex := 292, descriptorIndex := 25, attributes := #[] }, { accessFlags := 26, nameIndex := 108, descriptorIndex := 109, attributes := #[] }, { accessFlags := 25, nameIndex := 294, descriptorIndex := 25, attributes := #[] }])
  fields := #[{ name := "U", type := (.object "jdk/internal/misc/Unsafe"), accessFlags := 24, slot := 0, constantValue := 0 }, { name := "BIG_ENDIAN", type := .boolean, accessFlags := 26, slot := 1, constantValue := 0 }, { name := "LOG2_ARRAY_BOOLEAN_INDEX_SCALE", type := .int, accessFlags := 25, slot := 2, constantValue := 0 }, { name := "LOG2_ARRAY_BYTE_INDEX_SCALE", type := .int, accessFlags := 25, slot := 3, constantValue := 0 }, { name := "LOG2_ARRAY_CHAR_INDEX_SCALE", type := .int, accessFlags := 25, slot := 4, constantValue := 0 }, { name := "LOG2_ARRAY_SHORT_INDEX_SCALE", type := .int, accessFlags := 25, slot := 5, constantValue := 0 }, { name := "LOG2_ARRAY_INT_INDEX_SCALE", type := .int, accessFlags := 25, slot := 6, constantValue := 0 }, { name := "LOG2_ARRAY_LONG_INDEX_SCALE", type := .int, accessFlags := 25, slot := 7, constantValue := 0 }, { name := "LOG2_ARRAY_FLOAT_INDEX_SCALE", type := .int, accessFlags := 25, slot := 8, constantValue := 0 }, { name := "LOG2_ARRAY_DOUBLE_INDEX_SCALE", type := .int, accessFlags := 25, slot := 9, constantValue := 0 }, { name := "LOG2_BYTE_BIT_SIZE", type := .int, accessFlags := 26, slot := 10, constantValue := 0 }, { name := "T_BOOLEAN", type := .int, accessFlags := 25, slot := 11, constantValue := 0 }, { name := "T_CHAR", type := .int, accessFlags := 25, slot := 12, constantValue := 0 }, { name := "T_FLOAT", type := .int, accessFlags := 25, slot := 13, constantValue := 0 }, { name := "T_DOUBLE", type := .int, accessFlags := 25, slot := 14, constantValue := 0 }, { name := "T_BYTE", type := .int, accessFlags := 25, slot := 15, constantValue := 0 }, { name := "T_SHORT", type := .int, accessFlags := 25, slot := 16, constantValue := 0 }, { name := "T_INT", type := .int, accessFlags := 25, slot := 17, constantValue := 0 }, { name := "T_LONG", type := .int, accessFlags := 25, slot := 18, constantValue := 0 }, { name := "JLA", type := (.object "jdk/internal/access/JavaLangAccess"), accessFlags := 26, slot := 19, constantValue := 0 }, { name := "SOFT_MAX_ARRAY_LENGTH", type := .int, accessFlags := 25, slot := 20, constantValue := 0 }]
  methods := #[k15m0]
  instanceTypes := #[]
  staticTypes := #[(.object "jdk/internal/misc/Unsafe"), .boolean, .int, .int, .int, .int, .int, .int, .int, .int, .int, .int, .int, .int, .int, .int, .int, .int, .int, (.object "jdk/internal/access/JavaLangAccess"), .int]
  resolved := Array.replicate 378 none
  statics := none }

def pool16 : Array CpInfo := pool [(1, u "java/lang/Cloneable"), (0, .class_ 1), (0, u "java/lang/Object"), (0, .class_ 3)] 3

/-- java/lang/Cloneable -/
def k16 : Class := { plain "java/lang/Cloneable" (some 0) with
  accessFlags := 1537
  interfaces := #[]
  cf := some (fileOf pool16 2 #[] #[] 1537 4 #[] #[])
  fields := #[]
  methods := #[]
  instanceTypes := #[]
  staticTypes := #[]
  resolved := Array.replicate 8 none
  statics := none }

/-- the primitive byte -/
def k17 : Class := { plain "byte" none with kind := .primitive 'B', accessFlags := 0x411 }
/-- [B -/
def k18 : Class := { plain "[B" (some 0) with kind := .array 17 .byte, interfaces := #[16, 2], accessFlags := 1041 }

/-- the primitive char -/
def k19 : Class := { plain "char" none with kind := .primitive 'C', accessFlags := 0x411 }
/-- [C -/
def k20 : Class := { plain "[C" (some 0) with kind := .array 19 .char, interfaces := #[16, 2], accessFlags := 1041 }

/-- the primitive int -/
def k21 : Class := { plain "int" none with kind := .primitive 'I', accessFlags := 0x411 }
/-- [I -/
def k22 : Class := { plain "[I" (some 0) with kind := .array 21 .int, interfaces := #[16, 2], accessFlags := 1041 }

/-- [Ljava/lang/Object; -/
def k23 : Class := { plain "[Ljava/lang/Object;" (some 0) with kind := .array 0 (.object "java/lang/Object"), interfaces := #[16, 2], accessFlags := 1041 }

def heap : Heap := #[{ cls := 7, slots := #[.long 0, .int 1, .null, .int 0, .null, .int 0, .int 0], vm := .statics 7 },
  { cls := 11, slots := #[.null, .null, .null], vm := .statics 11 }]
def classes : Array Class := #[k0, k1, k2, k3, k4, k5, k6, k7, k8, k9, k10, k11, k12, k13, k14, k15, k16, k17, k18, k19, k20, k21, k22, k23]
def interned : List (Array UInt16 × Addr) := []
def slotsUsed : Nat := 10
def theMethod : MethodId := ⟨1, 3⟩
def args0 : Array Value := #[.int 1, .int 2, .int 3, .int 4, .int 5, .int 6]
def aboutOver (below : List Frame) : State where
  vm := { classes := classes, interned := interned.toArray }
  heap := heap
  slotsUsed := slotsUsed
  threads := #[{ frames := .invoking theMethod args0 :: below }]
def below0 : List Frame := [.native { method := ⟨0, 0⟩, args := #[] }]
def about1 : State := aboutOver below0
def p0 : Program := .bare "" "" ""
def e0 : Env := launch0.env 0 0 0
theorem w_frames : about1.frames = Frame.invoking theMethod args0 :: below0 := rfl
set_option maxRecDepth 65536 in
theorem w_args : argsFit about1.vm theMethod args0 = true := by decide +kernel
set_option maxRecDepth 65536 in
theorem w_heap : heapFits about1 = true := by decide +kernel
set_option maxRecDepth 65536 in
theorem w_runnable : about1.curStatus? = some .runnable := by decide +kernel
set_option maxRecDepth 65536 in
theorem w_alone : about1.alone = true := by decide +kernel
set_option maxRecDepth 65536 in
theorem w_named : about1.methodNamed? x = some theMethod := by decide +kernel
set_option maxRecDepth 65536 in
theorem w_hears : about1.hears theMethod below0 = true := by decide +kernel
set_option maxRecDepth 65536 in
theorem w_ripe : about1.ripe theMethod args0 below0 = true := by decide +kernel
theorem w_running : about1.status = .running := rfl
set_option maxRecDepth 65536 in
theorem w_room : about1.hasRoom e0.platform room_1 = true :=
  launch0.hasRoom_least _ room_1 (by decide +kernel) (by decide +kernel) (by decide +kernel) (by decide +kernel) (by decide +kernel) (by decide +kernel)
theorem allAtoms_all (ts : List Jvm.Cond) (a : Array Jvm.Value) (st : Jvm.State) : (allAtoms ts).before a st = ts.all (fun c => c.before a st) := by
  induction ts with
  | nil => rfl
  | cons c t ih =>
    show (Jvm.Cond.and c (allAtoms t)).before a st = _
    rw [Jvm.Cond.before_and, ih, List.all_cons]
def words1 : List Jvm.Cond := Jvm.Cond.code x code maxLocals ret :: tables_1
/-- a 'code' word, met by the world's own term for the bytes: nothing is compared byte by byte -/
theorem code_word {y : MethodName} {bytes : ByteArray} {mx : Nat} {rt : Option FieldType} {a : Array Value} {s : State} {m : MethodId} {meth : Method} {c : Code} (h1 : s.methodNamed? y = some m) (h2 : s.vm.method? m = some meth) (h3 : meth.code = some c) (h4 : c.code = bytes)
    (h5 : (c.maxLocals == mx && c.exceptionTable.isEmpty && decide (c.maxStack ≤ mostOperands) && decide (meth.sig.returnType = rt) && !meth.locks && decide (parseMethodDescriptor y.desc = some meth.sig)) = true) : (Jvm.Cond.code y bytes mx rt).before a s = true := by
  simp only [Bool.and_eq_true, beq_iff_eq, Bool.not_eq_true', decide_eq_true_eq] at h5
  obtain ⟨⟨⟨⟨⟨g1, g2⟩, g3⟩, g4⟩, g5⟩, g6⟩ := h5
  simp [Cond.before, Cond.holds, Cond.value, h1, h2, h3, h4, g1, g2, g3, g4, g5, g6]
def isCode : Jvm.Cond → Bool
  | .code _ _ _ _ => true
  | _ => false
theorem all_split {L : List Jvm.Cond} {P : Jvm.Cond → Bool} (h1 : L.all (fun c => isCode c || P c) = true) (h2 : ∀ c ∈ L.filter isCode, P c = true) : L.all P = true := by
  refine List.all_eq_true.mpr fun c hc => ?_
  have h := List.all_eq_true.mp h1 c hc
  rcases Bool.eq_false_or_eq_true (isCode c) with hi | hi
  · exact h2 c (List.mem_filter.mpr ⟨hc, hi⟩)
  · simpa [hi] using h
set_option maxRecDepth 65536 in
theorem w_c0 : (Jvm.Cond.code x code maxLocals ret).before args0 about1 = true := code_word (m := ⟨1, 3⟩) (meth := k1m3) (c := k1c3) (by decide +kernel) rfl rfl rfl (by decide +kernel)
set_option maxRecDepth 65536 in
theorem w_c1 : (Jvm.Cond.code ({ cls := "com/example/arbiter/arbiter/OrdinalTableOrdinalPinLaw", name := "pick", desc := "(IIIII)[I" } : Jvm.MethodName) method_2_code (5 : Nat) (Option.some (Jvm.ClassFile.FieldType.array Jvm.ClassFile.FieldType.int))).before args0 about1 = true := code_word (m := ⟨1, 1⟩) (meth := k1m1) (c := k1c1) (by decide +kernel) rfl rfl rfl (by decide +kernel)
set_option maxRecDepth 65536 in
theorem w_c2 : (Jvm.Cond.code ({ cls := "java/lang/String", name := "valueOf", desc := "(C)Ljava/lang/String;" } : Jvm.MethodName) jdk_42_method_139_code (1 : Nat) (Option.some (Jvm.ClassFile.FieldType.object "java/lang/String"))).before args0 about1 = true := code_word (m := ⟨7, 6⟩) (meth := k7m6) (c := k7c6) (by decide +kernel) rfl rfl rfl (by decide +kernel)
set_option maxRecDepth 65536 in
theorem w_c3 : (Jvm.Cond.code ({ cls := "java/lang/StringLatin1", name := "canEncode", desc := "(C)Z" } : Jvm.MethodName) jdk_43_method_3_code (1 : Nat) (Option.some Jvm.ClassFile.FieldType.boolean)).before args0 about1 = true := code_word (m := ⟨8, 2⟩) (meth := k8m2) (c := k8c2) (by decide +kernel) rfl rfl rfl (by decide +kernel)
set_option maxRecDepth 65536 in
theorem w_c4 : (Jvm.Cond.code ({ cls := "java/lang/StringLatin1", name := "toBytes", desc := "(C)[B" } : Jvm.MethodName) jdk_43_method_46_code (1 : Nat) (Option.some (Jvm.ClassFile.FieldType.array Jvm.ClassFile.FieldType.byte))).before args0 about1 = true := code_word (m := ⟨8, 3⟩) (meth := k8m3) (c := k8c3) (by decide +kernel) rfl rfl rfl (by decide +kernel)
set_option maxRecDepth 65536 in
theorem w_c5 : (Jvm.Cond.code ({ cls := "java/lang/String", name := "<init>", desc := "([BB)V" } : Jvm.MethodName) jdk_42_method_151_code (3 : Nat) (Option.none : Option Jvm.ClassFile.FieldType)).before args0 about1 = true := code_word (m := ⟨7, 8⟩) (meth := k7m8) (c := k7c8) (by decide +kernel) rfl rfl rfl (by decide +kernel)
set_option maxRecDepth 65536 in
theorem w_c6 : (Jvm.Cond.code ({ cls := "java/lang/Object", name := "<init>", desc := "()V" } : Jvm.MethodName) object_method_1_code (1 : Nat) (Option.none : Option Jvm.ClassFile.FieldType)).before args0 about1 = true := code_word (m := ⟨0, 0⟩) (meth := k0m0) (c := k0c0) (by decide +kernel) rfl rfl rfl (by decide +kernel)
set_option maxRecDepth 65536 in
theorem w_c7 : (Jvm.Cond.code ({ cls := "com/example/arbiter/arbiter/Name", name := "of", desc := "(Ljava/lang/String;)Lcom/example/arbiter/arbiter/Name;" } : Jvm.MethodName) prog_20_method_2_code (5 : Nat) (Option.some (Jvm.ClassFile.FieldType.object "com/example/arbiter/arbiter/Name"))).before args0 about1 = true := code_word (m := ⟨9, 1⟩) (meth := k9m1) (c := k9c1) (by decide +kernel) rfl rfl rfl (by decide +kernel)
set_option maxRecDepth 65536 in
theorem w_c8 : (Jvm.Cond.code ({ cls := "java/util/Objects", name := "requireNonNull", desc := "(Ljava/lang/Object;Ljava/lang/String;)Ljava/lang/Object;" } : Jvm.MethodName) jdk_31_method_11_code (2 : Nat) (Option.some (Jvm.ClassFile.FieldType.object "java/lang/Object"))).before args0 about1 = true := code_word (m := ⟨10, 1⟩) (meth := k10m1) (c := k10c1) (by decide +kernel) rfl rfl rfl (by decide +kernel)
set_option maxRecDepth 65536 in
theorem w_c9 : (Jvm.Cond.code ({ cls := "java/lang/String", name := "isEmpty", desc := "()Z" } : Jvm.MethodName) jdk_42_method_55_code (1 : Nat) (Option.some Jvm.ClassFile.FieldType.boolean)).before args0 about1 = true := code_word (m := ⟨7, 3⟩) (meth := k7m3) (c := k7c3) (by decide +kernel) rfl rfl rfl (by decide +kernel)
set_option maxRecDepth 65536 in
theorem w_c10 : (Jvm.Cond.code ({ cls := "java/lang/String", name := "length", desc := "()I" } : Jvm.MethodName) jdk_42_method_54_code (1 : Nat) (Option.some Jvm.ClassFile.FieldType.int)).before args0 about1 = true := code_word (m := ⟨7, 2⟩) (meth := k7m2) (c := k7c2) (by decide +kernel) rfl rfl rfl (by decide +kernel)
set_option maxRecDepth 65536 in
theorem w_c11 : (Jvm.Cond.code ({ cls := "java/lang/String", name := "coder", desc := "()B" } : Jvm.MethodName) jdk_42_method_152_code (1 : Nat) (Option.some Jvm.ClassFile.FieldType.byte)).before args0 about1 = true := code_word (m := ⟨7, 9⟩) (meth := k7m9) (c := k7c9) (by decide +kernel) rfl rfl rfl (by decide +kernel)
set_option maxRecDepth 65536 in
theorem w_c12 : (Jvm.Cond.code ({ cls := "java/lang/String", name := "codePointCount", desc := "(II)I" } : Jvm.MethodName) jdk_42_method_59_code (3 : Nat) (Option.some Jvm.ClassFile.FieldType.int)).before args0 about1 = true := code_word (m := ⟨7, 5⟩) (meth := k7m5) (c := k7c5) (by decide +kernel) rfl rfl rfl (by decide +kernel)
set_option maxRecDepth 65536 in
theorem w_c13 : (Jvm.Cond.code ({ cls := "java/util/Objects", name := "checkFromToIndex", desc := "(III)I" } : Jvm.MethodName) jdk_31_method_18_code (3 : Nat) (Option.some Jvm.ClassFile.FieldType.int)).before args0 about1 = true := code_word (m := ⟨10, 2⟩) (meth := k10m2) (c := k10c2) (by decide +kernel) rfl rfl rfl (by decide +kernel)
set_option maxRecDepth 65536 in
theorem w_c14 : (Jvm.Cond.code ({ cls := "jdk/internal/util/Preconditions", name := "checkFromToIndex", desc := "(IIILjava/util/function/BiFunction;)I" } : Jvm.MethodName) jdk_41_method_12_code (4 : Nat) (Option.some Jvm.ClassFile.FieldType.int)).before args0 about1 = true := code_word (m := ⟨11, 2⟩) (meth := k11m2) (c := k11c2) (by decide +kernel) rfl rfl rfl (by decide +kernel)
set_option maxRecDepth 65536 in
theorem w_c15 : (Jvm.Cond.code ({ cls := "java/lang/String", name := "isLatin1", desc := "()Z" } : Jvm.MethodName) jdk_42_method_154_code (1 : Nat) (Option.some Jvm.ClassFile.FieldType.boolean)).before args0 about1 = true := code_word (m := ⟨7, 10⟩) (meth := k7m10) (c := k7c10) (by decide +kernel) rfl rfl rfl (by decide +kernel)
set_option maxRecDepth 65536 in
theorem w_c16 : (Jvm.Cond.code ({ cls := "com/example/arbiter/arbiter/Name", name := "firstForbidden", desc := "(Ljava/lang/String;)I" } : Jvm.MethodName) prog_20_method_9_code (4 : Nat) (Option.some Jvm.ClassFile.FieldType.int)).before args0 about1 = true := code_word (m := ⟨9, 3⟩) (meth := k9m3) (c := k9c3) (by decide +kernel) rfl rfl rfl (by decide +kernel)
set_option maxRecDepth 65536 in
theorem w_c17 : (Jvm.Cond.code ({ cls := "java/lang/String", name := "charAt", desc := "(I)C" } : Jvm.MethodName) jdk_42_method_56_code (2 : Nat) (Option.some Jvm.ClassFile.FieldType.char)).before args0 about1 = true := code_word (m := ⟨7, 4⟩) (meth := k7m4) (c := k7c4) (by decide +kernel) rfl rfl rfl (by decide +kernel)
set_option maxRecDepth 65536 in
theorem w_c18 : (Jvm.Cond.code ({ cls := "java/lang/StringLatin1", name := "charAt", desc := "([BI)C" } : Jvm.MethodName) jdk_43_method_2_code (2 : Nat) (Option.some Jvm.ClassFile.FieldType.char)).before args0 about1 = true := code_word (m := ⟨8, 1⟩) (meth := k8m1) (c := k8c1) (by decide +kernel) rfl rfl rfl (by decide +kernel)
set_option maxRecDepth 65536 in
theorem w_c19 : (Jvm.Cond.code ({ cls := "java/lang/String", name := "checkIndex", desc := "(II)V" } : Jvm.MethodName) jdk_42_method_155_code (2 : Nat) (Option.none : Option Jvm.ClassFile.FieldType)).before args0 about1 = true := code_word (m := ⟨7, 11⟩) (meth := k7m11) (c := k7c11) (by decide +kernel) rfl rfl rfl (by decide +kernel)
set_option maxRecDepth 65536 in
theorem w_c20 : (Jvm.Cond.code ({ cls := "jdk/internal/util/Preconditions", name := "checkIndex", desc := "(IILjava/util/function/BiFunction;)I" } : Jvm.MethodName) jdk_41_method_11_code (3 : Nat) (Option.some Jvm.ClassFile.FieldType.int)).before args0 about1 = true := code_word (m := ⟨11, 1⟩) (meth := k11m1) (c := k11c1) (by decide +kernel) rfl rfl rfl (by decide +kernel)
set_option maxRecDepth 65536 in
theorem w_c21 : (Jvm.Cond.code ({ cls := "com/example/arbiter/arbiter/Name", name := "<init>", desc := "(Ljava/lang/String;)V" } : Jvm.MethodName) prog_20_method_1_code (2 : Nat) (Option.none : Option Jvm.ClassFile.FieldType)).before args0 about1 = true := code_word (m := ⟨9, 0⟩) (meth := k9m0) (c := k9c0) (by decide +kernel) rfl rfl rfl (by decide +kernel)
set_option maxRecDepth 65536 in
theorem w_c22 : (Jvm.Cond.code ({ cls := "java/lang/String", name := "<init>", desc := "([C)V" } : Jvm.MethodName) jdk_42_method_3_code (2 : Nat) (Option.none : Option Jvm.ClassFile.FieldType)).before args0 about1 = true := code_word (m := ⟨7, 1⟩) (meth := k7m1) (c := k7c1) (by decide +kernel) rfl rfl rfl (by decide +kernel)
set_option maxRecDepth 65536 in
theorem w_c23 : (Jvm.Cond.code ({ cls := "java/lang/String", name := "<init>", desc := "([CIILjava/lang/Void;)V" } : Jvm.MethodName) jdk_42_method_149_code (6 : Nat) (Option.none : Option Jvm.ClassFile.FieldType)).before args0 about1 = true := code_word (m := ⟨7, 7⟩) (meth := k7m7) (c := k7c7) (by decide +kernel) rfl rfl rfl (by decide +kernel)
set_option maxRecDepth 65536 in
theorem w_c24 : (Jvm.Cond.code ({ cls := "java/lang/StringUTF16", name := "compress", desc := "([CII)[B" } : Jvm.MethodName) jdk_52_method_16_code (6 : Nat) (Option.some (Jvm.ClassFile.FieldType.array Jvm.ClassFile.FieldType.byte))).before args0 about1 = true := code_word (m := ⟨12, 2⟩) (meth := k12m2) (c := k12c2) (by decide +kernel) rfl rfl rfl (by decide +kernel)
set_option maxRecDepth 65536 in
theorem w_c25 : (Jvm.Cond.code ({ cls := "java/lang/StringUTF16", name := "compress", desc := "([CI[BII)I" } : Jvm.MethodName) jdk_52_method_21_code (7 : Nat) (Option.some Jvm.ClassFile.FieldType.int)).before args0 about1 = true := code_word (m := ⟨12, 3⟩) (meth := k12m3) (c := k12c3) (by decide +kernel) rfl rfl rfl (by decide +kernel)
set_option maxRecDepth 65536 in
theorem w_c26 : (Jvm.Cond.code ({ cls := "java/lang/StringUTF16", name := "coderFromArrayLen", desc := "([BI)B" } : Jvm.MethodName) jdk_52_method_15_code (2 : Nat) (Option.some Jvm.ClassFile.FieldType.byte)).before args0 about1 = true := code_word (m := ⟨12, 1⟩) (meth := k12m1) (c := k12c1) (by decide +kernel) rfl rfl rfl (by decide +kernel)
set_option maxRecDepth 65536 in
theorem w_c27 : (Jvm.Cond.code ({ cls := "com/example/arbiter/arbiter/OrdinalTable", name := "<init>", desc := "(I)V" } : Jvm.MethodName) prog_25_method_2_code (2 : Nat) (Option.none : Option Jvm.ClassFile.FieldType)).before args0 about1 = true := code_word (m := ⟨13, 1⟩) (meth := k13m1) (c := k13c1) (by decide +kernel) rfl rfl rfl (by decide +kernel)
set_option maxRecDepth 65536 in
theorem w_c28 : (Jvm.Cond.code ({ cls := "com/example/arbiter/arbiter/OrdinalTable", name := "put", desc := "(Lcom/example/arbiter/arbiter/Name;Ljava/lang/Object;[I)V" } : Jvm.MethodName) prog_25_method_13_code (4 : Nat) (Option.none : Option Jvm.ClassFile.FieldType)).before args0 about1 = true := code_word (m := ⟨13, 4⟩) (meth := k13m4) (c := k13c4) (by decide +kernel) rfl rfl rfl (by decide +kernel)
set_option maxRecDepth 65536 in
theorem w_c29 : (Jvm.Cond.code ({ cls := "com/example/arbiter/arbiter/Name", name := "toString", desc := "()Ljava/lang/String;" } : Jvm.MethodName) prog_20_method_6_code (1 : Nat) (Option.some (Jvm.ClassFile.FieldType.object "java/lang/String"))).before args0 about1 = true := code_word (m := ⟨9, 2⟩) (meth := k9m2) (c := k9c2) (by decide +kernel) rfl rfl rfl (by decide +kernel)
set_option maxRecDepth 65536 in
theorem w_c30 : (Jvm.Cond.code ({ cls := "com/example/arbiter/arbiter/OrdinalTable", name := "put", desc := "(Ljava/lang/String;Ljava/lang/String;Ljava/lang/Object;[I)V" } : Jvm.MethodName) prog_25_method_19_code (7 : Nat) (Option.none : Option Jvm.ClassFile.FieldType)).before args0 about1 = true := code_word (m := ⟨13, 7⟩) (meth := k13m7) (c := k13c7) (by decide +kernel) rfl rfl rfl (by decide +kernel)
set_option maxRecDepth 65536 in
theorem w_c31 : (Jvm.Cond.code ({ cls := "com/example/arbiter/arbiter/OrdinalTable", name := "hash", desc := "(Ljava/lang/String;Ljava/lang/String;)I" } : Jvm.MethodName) prog_25_method_32_code (4 : Nat) (Option.some Jvm.ClassFile.FieldType.int)).before args0 about1 = true := code_word (m := ⟨13, 16⟩) (meth := k13m16) (c := k13c16) (by decide +kernel) rfl rfl rfl (by decide +kernel)
set_option maxRecDepth 65536 in
theorem w_c32 : (Jvm.Cond.code ({ cls := "com/example/arbiter/arbiter/OrdinalTable", name := "mixText", desc := "(ILjava/lang/String;)I" } : Jvm.MethodName) prog_25_method_33_code (4 : Nat) (Option.some Jvm.ClassFile.FieldType.int)).before args0 about1 = true := code_word (m := ⟨13, 17⟩) (meth := k13m17) (c := k13c17) (by decide +kernel) rfl rfl rfl (by decide +kernel)
set_option maxRecDepth 65536 in
theorem w_c33 : (Jvm.Cond.code ({ cls := "com/example/arbiter/arbiter/OrdinalTable", name := "word", desc := "(Ljava/lang/String;I)I" } : Jvm.MethodName) prog_25_method_31_code (3 : Nat) (Option.some Jvm.ClassFile.FieldType.int)).before args0 about1 = true := code_word (m := ⟨13, 15⟩) (meth := k13m15) (c := k13c15) (by decide +kernel) rfl rfl rfl (by decide +kernel)
set_option maxRecDepth 65536 in
theorem w_c34 : (Jvm.Cond.code ({ cls := "com/example/arbiter/arbiter/OrdinalTable", name := "find", desc := "(ILjava/lang/String;Ljava/lang/String;)I" } : Jvm.MethodName) prog_25_method_18_code (7 : Nat) (Option.some Jvm.ClassFile.FieldType.int)).before args0 about1 = true := code_word (m := ⟨13, 6⟩) (meth := k13m6) (c := k13c6) (by decide +kernel) rfl rfl rfl (by decide +kernel)
set_option maxRecDepth 65536 in
theorem w_c35 : (Jvm.Cond.code ({ cls := "com/example/arbiter/arbiter/OrdinalTable", name := "emptySlot", desc := "(I)I" } : Jvm.MethodName) prog_25_method_22_code (4 : Nat) (Option.some Jvm.ClassFile.FieldType.int)).before args0 about1 = true := code_word (m := ⟨13, 8⟩) (meth := k13m8) (c := k13c8) (by decide +kernel) rfl rfl rfl (by decide +kernel)
set_option maxRecDepth 65536 in
theorem w_c36 : (Jvm.Cond.code ({ cls := "com/example/arbiter/arbiter/OrdinalTable", name := "write", desc := "(Ljava/lang/String;Ljava/lang/String;[I)I" } : Jvm.MethodName) prog_25_method_25_code (7 : Nat) (Option.some Jvm.ClassFile.FieldType.int)).before args0 about1 = true := code_word (m := ⟨13, 10⟩) (meth := k13m10) (c := k13c10) (by decide +kernel) rfl rfl rfl (by decide +kernel)
set_option maxRecDepth 65536 in
theorem w_c37 : (Jvm.Cond.code ({ cls := "com/example/arbiter/arbiter/OrdinalTable", name := "textLength", desc := "(Ljava/lang/String;)I" } : Jvm.MethodName) prog_25_method_30_code (2 : Nat) (Option.some Jvm.ClassFile.FieldType.int)).before args0 about1 = true := code_word (m := ⟨13, 14⟩) (meth := k13m14) (c := k13c14) (by decide +kernel) rfl rfl rfl (by decide +kernel)
set_option maxRecDepth 65536 in
theorem w_c38 : (Jvm.Cond.code ({ cls := "com/example/arbiter/arbiter/OrdinalTable", name := "writeText", desc := "(ILjava/lang/String;)I" } : Jvm.MethodName) prog_25_method_26_code (5 : Nat) (Option.some Jvm.ClassFile.FieldType.int)).before args0 about1 = true := code_word (m := ⟨13, 11⟩) (meth := k13m11) (c := k13c11) (by decide +kernel) rfl rfl rfl (by decide +kernel)
set_option maxRecDepth 65536 in
theorem w_c39 : (Jvm.Cond.code ({ cls := "com/example/arbiter/arbiter/OrdinalTable", name := "packWhereMostlyUnused", desc := "()V" } : Jvm.MethodName) prog_25_method_24_code (6 : Nat) (Option.none : Option Jvm.ClassFile.FieldType)).before args0 about1 = true := code_word (m := ⟨13, 9⟩) (meth := k13m9) (c := k13c9) (by decide +kernel) rfl rfl rfl (by decide +kernel)
set_option maxRecDepth 65536 in
theorem w_c40 : (Jvm.Cond.code ({ cls := "com/example/arbiter/arbiter/OrdinalTable", name := "find", desc := "(Lcom/example/arbiter/arbiter/Name;)I" } : Jvm.MethodName) prog_25_method_5_code (2 : Nat) (Option.some Jvm.ClassFile.FieldType.int)).before args0 about1 = true := code_word (m := ⟨13, 2⟩) (meth := k13m2) (c := k13c2) (by decide +kernel) rfl rfl rfl (by decide +kernel)
set_option maxRecDepth 65536 in
theorem w_c41 : (Jvm.Cond.code ({ cls := "com/example/arbiter/arbiter/OrdinalTable", name := "find", desc := "(Ljava/lang/String;Ljava/lang/String;)I" } : Jvm.MethodName) prog_25_method_17_code (3 : Nat) (Option.some Jvm.ClassFile.FieldType.int)).before args0 about1 = true := code_word (m := ⟨13, 5⟩) (meth := k13m5) (c := k13c5) (by decide +kernel) rfl rfl rfl (by decide +kernel)
set_option maxRecDepth 65536 in
theorem w_c42 : (Jvm.Cond.code ({ cls := "com/example/arbiter/arbiter/OrdinalTable", name := "matches", desc := "(ILjava/lang/String;Ljava/lang/String;)Z" } : Jvm.MethodName) prog_25_method_27_code (6 : Nat) (Option.some Jvm.ClassFile.FieldType.boolean)).before args0 about1 = true := code_word (m := ⟨13, 12⟩) (meth := k13m12) (c := k13c12) (by decide +kernel) rfl rfl rfl (by decide +kernel)
set_option maxRecDepth 65536 in
theorem w_c43 : (Jvm.Cond.code ({ cls := "com/example/arbiter/arbiter/OrdinalTable", name := "matchesText", desc := "(ILjava/lang/String;)I" } : Jvm.MethodName) prog_25_method_28_code (6 : Nat) (Option.some Jvm.ClassFile.FieldType.int)).before args0 about1 = true := code_word (m := ⟨13, 13⟩) (meth := k13m13) (c := k13c13) (by decide +kernel) rfl rfl rfl (by decide +kernel)
set_option maxRecDepth 65536 in
theorem w_c44 : (Jvm.Cond.code ({ cls := "com/example/arbiter/arbiter/OrdinalTableOrdinalPinLaw", name := "at", desc := "(IIIII)I" } : Jvm.MethodName) method_3_code (5 : Nat) (Option.some Jvm.ClassFile.FieldType.int)).before args0 about1 = true := code_word (m := ⟨1, 2⟩) (meth := k1m2) (c := k1c2) (by decide +kernel) rfl rfl rfl (by decide +kernel)
set_option maxRecDepth 65536 in
theorem w_c45 : (Jvm.Cond.code ({ cls := "com/example/arbiter/arbiter/OrdinalTable", name := "ordinal", desc := "(II)I" } : Jvm.MethodName) prog_25_method_9_code (3 : Nat) (Option.some Jvm.ClassFile.FieldType.int)).before args0 about1 = true := code_word (m := ⟨13, 3⟩) (meth := k13m3) (c := k13c3) (by decide +kernel) rfl rfl rfl (by decide +kernel)
def codes1 : List Jvm.Cond := [Jvm.Cond.code x code maxLocals ret, Jvm.Cond.code ({ cls := "com/example/arbiter/arbiter/OrdinalTableOrdinalPinLaw", name := "pick", desc := "(IIIII)[I" } : Jvm.MethodName) method_2_code (5 : Nat) (Option.some (Jvm.ClassFile.FieldType.array Jvm.ClassFile.FieldType.int)), Jvm.Cond.code ({ cls := "java/lang/String", name := "valueOf", desc := "(C)Ljava/lang/String;" } : Jvm.MethodName) jdk_42_method_139_code (1 : Nat) (Option.some (Jvm.ClassFile.FieldType.object "java/lang/String")), Jvm.Cond.code ({ cls := "java/lang/StringLatin1", name := "canEncode", desc := "(C)Z" } : Jvm.MethodName) jdk_43_method_3_code (1 : Nat) (Option.some Jvm.ClassFile.FieldType.boolean), Jvm.Cond.code ({ cls := "java/lang/StringLatin1", name := "toBytes", desc := "(C)[B" } : Jvm.MethodName) jdk_43_method_46_code (1 : Nat) (Option.some (Jvm.ClassFile.FieldType.array Jvm.ClassFile.FieldType.byte)), Jvm.Cond.code ({ cls := "java/lang/String", name := "<init>", desc := "([BB)V" } : Jvm.MethodName) jdk_42_method_151_code (3 : Nat) (Option.none : Option Jvm.ClassFile.FieldType), Jvm.Cond.code ({ cls := "java/lang/Object", name := "<init>", desc := "()V" } : Jvm.MethodName) object_method_1_code (1 : Nat) (Option.none : Option Jvm.ClassFile.FieldType), Jvm.Cond.code ({ cls := "com/example/arbiter/arbiter/Name", name := "of", desc := "(Ljava/lang/String;)Lcom/example/arbiter/arbiter/Name;" } : Jvm.MethodName) prog_20_method_2_code (5 : Nat) (Option.some (Jvm.ClassFile.FieldType.object "com/example/arbiter/arbiter/Name")), Jvm.Cond.code ({ cls := "java/util/Objects", name := "requireNonNull", desc := "(Ljava/lang/Object;Ljava/lang/String;)Ljava/lang/Object;" } : Jvm.MethodName) jdk_31_method_11_code (2 : Nat) (Option.some (Jvm.ClassFile.FieldType.object "java/lang/Object")), Jvm.Cond.code ({ cls := "java/lang/String", name := "isEmpty", desc := "()Z" } : Jvm.MethodName) jdk_42_method_55_code (1 : Nat) (Option.some Jvm.ClassFile.FieldType.boolean), Jvm.Cond.code ({ cls := "java/lang/String", name := "length", desc := "()I" } : Jvm.MethodName) jdk_42_method_54_code (1 : Nat) (Option.some Jvm.ClassFile.FieldType.int), Jvm.Cond.code ({ cls := "java/lang/String", name := "coder", desc := "()B" } : Jvm.MethodName) jdk_42_method_152_code (1 : Nat) (Option.some Jvm.ClassFile.FieldType.byte), Jvm.Cond.code ({ cls := "java/lang/String", name := "codePointCount", desc := "(II)I" } : Jvm.MethodName) jdk_42_method_59_code (3 : Nat) (Option.some Jvm.ClassFile.FieldType.int), Jvm.Cond.code ({ cls := "java/util/Objects", name := "checkFromToIndex", desc := "(III)I" } : Jvm.MethodName) jdk_31_method_18_code (3 : Nat) (Option.some Jvm.ClassFile.FieldType.int), Jvm.Cond.code ({ cls := "jdk/internal/util/Preconditions", name := "checkFromToIndex", desc := "(IIILjava/util/function/BiFunction;)I" } : Jvm.MethodName) jdk_41_method_12_code (4 : Nat) (Option.some Jvm.ClassFile.FieldType.int), Jvm.Cond.code ({ cls := "java/lang/String", name := "isLatin1", desc := "()Z" } : Jvm.MethodName) jdk_42_method_154_code (1 : Nat) (Option.some Jvm.ClassFile.FieldType.boolean), Jvm.Cond.code ({ cls := "com/example/arbiter/arbiter/Name", name := "firstForbidden", desc := "(Ljava/lang/String;)I" } : Jvm.MethodName) prog_20_method_9_code (4 : Nat) (Option.some Jvm.ClassFile.FieldType.int), Jvm.Cond.code ({ cls := "java/lang/String", name := "charAt", desc := "(I)C" } : Jvm.MethodName) jdk_42_method_56_code (2 : Nat) (Option.some Jvm.ClassFile.FieldType.char), Jvm.Cond.code ({ cls := "java/lang/StringLatin1", name := "charAt", desc := "([BI)C" } : Jvm.MethodName) jdk_43_method_2_code (2 : Nat) (Option.some Jvm.ClassFile.FieldType.char), Jvm.Cond.code ({ cls := "java/lang/String", name := "checkIndex", desc := "(II)V" } : Jvm.MethodName) jdk_42_method_155_code (2 : Nat) (Option.none : Option Jvm.ClassFile.FieldType), Jvm.Cond.code ({ cls := "jdk/internal/util/Preconditions", name := "checkIndex", desc := "(IILjava/util/function/BiFunction;)I" } : Jvm.MethodName) jdk_41_method_11_code (3 : Nat) (Option.some Jvm.ClassFile.FieldType.int), Jvm.Cond.code ({ cls := "com/example/arbiter/arbiter/Name", name := "<init>", desc := "(Ljava/lang/String;)V" } : Jvm.MethodName) prog_20_method_1_code (2 : Nat) (Option.none : Option Jvm.ClassFile.FieldType), Jvm.Cond.code ({ cls := "java/lang/String", name := "<init>", desc := "([C)V" } : Jvm.MethodName) jdk_42_method_3_code (2 : Nat) (Option.none : Option Jvm.ClassFile.FieldType), Jvm.Cond.code ({ cls := "java/lang/String", name := "<init>", desc := "([CIILjava/lang/Void;)V" } : Jvm.MethodName) jdk_42_method_149_code (6 : Nat) (Option.none : Option Jvm.ClassFile.FieldType), Jvm.Cond.code ({ cls := "java/lang/StringUTF16", name := "compress", desc := "([CII)[B" } : Jvm.MethodName) jdk_52_method_16_code (6 : Nat) (Option.some (Jvm.ClassFile.FieldType.array Jvm.ClassFile.FieldType.byte)), Jvm.Cond.code ({ cls := "java/lang/StringUTF16", name := "compress", desc := "([CI[BII)I" } : Jvm.MethodName) jdk_52_method_21_code (7 : Nat) (Option.some Jvm.ClassFile.FieldType.int), Jvm.Cond.code ({ cls := "java/lang/StringUTF16", name := "coderFromArrayLen", desc := "([BI)B" } : Jvm.MethodName) jdk_52_method_15_code (2 : Nat) (Option.some Jvm.ClassFile.FieldType.byte), Jvm.Cond.code ({ cls := "com/example/arbiter/arbiter/OrdinalTable", name := "<init>", desc := "(I)V" } : Jvm.MethodName) prog_25_method_2_code (2 : Nat) (Option.none : Option Jvm.ClassFile.FieldType), Jvm.Cond.code ({ cls := "com/example/arbiter/arbiter/OrdinalTable", name := "put", desc := "(Lcom/example/arbiter/arbiter/Name;Ljava/lang/Object;[I)V" } : Jvm.MethodName) prog_25_method_13_code (4 : Nat) (Option.none : Option Jvm.ClassFile.FieldType), Jvm.Cond.code ({ cls := "com/example/arbiter/arbiter/Name", name := "toString", desc := "()Ljava/lang/String;" } : Jvm.MethodName) prog_20_method_6_code (1 : Nat) (Option.some (Jvm.ClassFile.FieldType.object "java/lang/String")), Jvm.Cond.code ({ cls := "com/example/arbiter/arbiter/OrdinalTable", name := "put", desc := "(Ljava/lang/String;Ljava/lang/String;Ljava/lang/Object;[I)V" } : Jvm.MethodName) prog_25_method_19_code (7 : Nat) (Option.none : Option Jvm.ClassFile.FieldType), Jvm.Cond.code ({ cls := "com/example/arbiter/arbiter/OrdinalTable", name := "hash", desc := "(Ljava/lang/String;Ljava/lang/String;)I" } : Jvm.MethodName) prog_25_method_32_code (4 : Nat) (Option.some Jvm.ClassFile.FieldType.int), Jvm.Cond.code ({ cls := "com/example/arbiter/arbiter/OrdinalTable", name := "mixText", desc := "(ILjava/lang/String;)I" } : Jvm.MethodName) prog_25_method_33_code (4 : Nat) (Option.some Jvm.ClassFile.FieldType.int), Jvm.Cond.code ({ cls := "com/example/arbiter/arbiter/OrdinalTable", name := "word", desc := "(Ljava/lang/String;I)I" } : Jvm.MethodName) prog_25_method_31_code (3 : Nat) (Option.some Jvm.ClassFile.FieldType.int), Jvm.Cond.code ({ cls := "com/example/arbiter/arbiter/OrdinalTable", name := "find", desc := "(ILjava/lang/String;Ljava/lang/String;)I" } : Jvm.MethodName) prog_25_method_18_code (7 : Nat) (Option.some Jvm.ClassFile.FieldType.int), Jvm.Cond.code ({ cls := "com/example/arbiter/arbiter/OrdinalTable", name := "emptySlot", desc := "(I)I" } : Jvm.MethodName) prog_25_method_22_code (4 : Nat) (Option.some Jvm.ClassFile.FieldType.int), Jvm.Cond.code ({ cls := "com/example/arbiter/arbiter/OrdinalTable", name := "write", desc := "(Ljava/lang/String;Ljava/lang/String;[I)I" } : Jvm.MethodName) prog_25_method_25_code (7 : Nat) (Option.some Jvm.ClassFile.FieldType.int), Jvm.Cond.code ({ cls := "com/example/arbiter/arbiter/OrdinalTable", name := "textLength", desc := "(Ljava/lang/String;)I" } : Jvm.MethodName) prog_25_method_30_code (2 : Nat) (Option.some Jvm.ClassFile.FieldType.int), Jvm.Cond.code ({ cls := "com/example/arbiter/arbiter/OrdinalTable", name := "writeText", desc := "(ILjava/lang/String;)I" } : Jvm.MethodName) prog_25_method_26_code (5 : Nat) (Option.some Jvm.ClassFile.FieldType.int), Jvm.Cond.code ({ cls := "com/example/arbiter/arbiter/OrdinalTable", name := "packWhereMostlyUnused", desc := "()V" } : Jvm.MethodName) prog_25_method_24_code (6 : Nat) (Option.none : Option Jvm.ClassFile.FieldType), Jvm.Cond.code ({ cls := "com/example/arbiter/arbiter/OrdinalTable", name := "find", desc := "(Lcom/example/arbiter/arbiter/Name;)I" } : Jvm.MethodName) prog_25_method_5_code (2 : Nat) (Option.some Jvm.ClassFile.FieldType.int), Jvm.Cond.code ({ cls := "com/example/arbiter/arbiter/OrdinalTable", name := "find", desc := "(Ljava/lang/String;Ljava/lang/String;)I" } : Jvm.MethodName) prog_25_method_17_code (3 : Nat) (Option.some Jvm.ClassFile.FieldType.int), Jvm.Cond.code ({ cls := "com/example/arbiter/arbiter/OrdinalTable", name := "matches", desc := "(ILjava/lang/String;Ljava/lang/String;)Z" } : Jvm.MethodName) prog_25_method_27_code (6 : Nat) (Option.some Jvm.ClassFile.FieldType.boolean), Jvm.Cond.code ({ cls := "com/example/arbiter/arbiter/OrdinalTable", name := "matchesText", desc := "(ILjava/lang/String;)I" } : Jvm.MethodName) prog_25_method_28_code (6 : Nat) (Option.some Jvm.ClassFile.FieldType.int), Jvm.Cond.code ({ cls := "com/example/arbiter/arbiter/OrdinalTableOrdinalPinLaw", name := "at", desc := "(IIIII)I" } : Jvm.MethodName) method_3_code (5 : Nat) (Option.some Jvm.ClassFile.FieldType.int), Jvm.Cond.code ({ cls := "com/example/arbiter/arbiter/OrdinalTable", name := "ordinal", desc := "(II)I" } : Jvm.MethodName) prog_25_method_9_code (3 : Nat) (Option.some Jvm.ClassFile.FieldType.int)]
set_option maxRecDepth 65536 in
theorem codes_eq : words1.filter isCode = codes1 := rfl
theorem w_codes : ∀ c ∈ words1.filter isCode, c.before args0 about1 = true := by
  rw [codes_eq]
  intro c hc
  simp only [codes1, List.mem_cons, List.not_mem_nil, or_false] at hc
  rcases hc with rfl | rfl | rfl | rfl | rfl | rfl | rfl | rfl | rfl | rfl | rfl | rfl | rfl | rfl | rfl | rfl | rfl | rfl | rfl | rfl | rfl | rfl | rfl | rfl | rfl | rfl | rfl | rfl | rfl | rfl | rfl | rfl | rfl | rfl | rfl | rfl | rfl | rfl | rfl | rfl | rfl | rfl | rfl | rfl | rfl | rfl
  · exact w_c0
  · exact w_c1
  · exact w_c2
  · exact w_c3
  · exact w_c4
  · exact w_c5
  · exact w_c6
  · exact w_c7
  · exact w_c8
  · exact w_c9
  · exact w_c10
  · exact w_c11
  · exact w_c12
  · exact w_c13
  · exact w_c14
  · exact w_c15
  · exact w_c16
  · exact w_c17
  · exact w_c18
  · exact w_c19
  · exact w_c20
  · exact w_c21
  · exact w_c22
  · exact w_c23
  · exact w_c24
  · exact w_c25
  · exact w_c26
  · exact w_c27
  · exact w_c28
  · exact w_c29
  · exact w_c30
  · exact w_c31
  · exact w_c32
  · exact w_c33
  · exact w_c34
  · exact w_c35
  · exact w_c36
  · exact w_c37
  · exact w_c38
  · exact w_c39
  · exact w_c40
  · exact w_c41
  · exact w_c42
  · exact w_c43
  · exact w_c44
  · exact w_c45
set_option maxRecDepth 65536 in
theorem w_t1 : (words1.take 24).all (fun c => isCode c || c.before args0 about1) = true := by decide +kernel
set_option maxRecDepth 65536 in
theorem w_t2 : ((words1.drop 24).take 24).all (fun c => isCode c || c.before args0 about1) = true := by decide +kernel
set_option maxRecDepth 65536 in
theorem w_t3 : (((words1.drop 24).drop 24).take 24).all (fun c => isCode c || c.before args0 about1) = true := by decide +kernel
set_option maxRecDepth 65536 in
theorem w_t4 : ((((words1.drop 24).drop 24).drop 24).take 24).all (fun c => isCode c || c.before args0 about1) = true := by decide +kernel
set_option maxRecDepth 65536 in
theorem w_t5 : (((((words1.drop 24).drop 24).drop 24).drop 24).take 24).all (fun c => isCode c || c.before args0 about1) = true := by decide +kernel
set_option maxRecDepth 65536 in
theorem w_t6 : ((((((words1.drop 24).drop 24).drop 24).drop 24).drop 24).take 24).all (fun c => isCode c || c.before args0 about1) = true := by decide +kernel
set_option maxRecDepth 65536 in
theorem w_t7 : (((((((words1.drop 24).drop 24).drop 24).drop 24).drop 24).drop 24).take 24).all (fun c => isCode c || c.before args0 about1) = true := by decide +kernel
set_option maxRecDepth 65536 in
theorem w_t8 : ((((((((words1.drop 24).drop 24).drop 24).drop 24).drop 24).drop 24).drop 24).take 24).all (fun c => isCode c || c.before args0 about1) = true := by decide +kernel
set_option maxRecDepth 65536 in
theorem w_t9 : (((((((((words1.drop 24).drop 24).drop 24).drop 24).drop 24).drop 24).drop 24).drop 24).take 24).all (fun c => isCode c || c.before args0 about1) = true := by decide +kernel
set_option maxRecDepth 65536 in
theorem w_t10 : (((((((((words1.drop 24).drop 24).drop 24).drop 24).drop 24).drop 24).drop 24).drop 24).drop 24).all (fun c => isCode c || c.before args0 about1) = true := by decide +kernel
theorem w_tables : (allAtoms (Jvm.Cond.code x code maxLocals ret :: tables_1)).before args0 about1 = true := by
  rw [allAtoms_all]
  show words1.all (fun c => c.before args0 about1) = true
  refine all_split ?_ w_codes
  rw [← List.take_append_drop 24 words1, List.all_append, w_t1, ← List.take_append_drop 24 (words1.drop 24), List.all_append, w_t2, ← List.take_append_drop 24 ((words1.drop 24).drop 24), List.all_append, w_t3, ← List.take_append_drop 24 (((words1.drop 24).drop 24).drop 24), List.all_append, w_t4, ← List.take_append_drop 24 ((((words1.drop 24).drop 24).drop 24).drop 24), List.all_append, w_t5, ← List.take_append_drop 24 (((((words1.drop 24).drop 24).drop 24).drop 24).drop 24), List.all_append, w_t6, ← List.take_append_drop 24 ((((((words1.drop 24).drop 24).drop 24).drop 24).drop 24).drop 24), List.all_append, w_t7, ← List.take_append_drop 24 (((((((words1.drop 24).drop 24).drop 24).drop 24).drop 24).drop 24).drop 24), List.all_append, w_t8, ← List.take_append_drop 24 ((((((((words1.drop 24).drop 24).drop 24).drop 24).drop 24).drop 24).drop 24).drop 24), List.all_append, w_t9, w_t10]
  rfl
set_option maxRecDepth 65536 in
theorem w_rest : rest_1_c.before args0 about1 = true := by decide +kernel
set_option maxRecDepth 65536 in
theorem w_case : (Jvm.Cond.and given_1 narrow_1).before args0 about1 = true := by decide +kernel
theorem w_applies : (headSpec (Jvm.Cond.code x code maxLocals ret :: tables_1) room_1).applies x e0.platform about1 = true :=
  (Spec.applies_iff w_frames).mpr ⟨w_running, w_runnable, w_alone, w_named, w_hears, w_ripe, w_room, w_tables⟩
theorem atStart : AtStart classFile x code maxLocals ret World_1 tables_1 room_1 Calls_1 rest_1 Pre_1 launch0 p0 e0 about1 theMethod args0 below0 :=
  ⟨lists_1, trivial, launch0.admits_env _ _ _, launch0.least_env, fairChoices_fair.cas, fairChoices_fair.clock, w_frames, w_args, w_heap, w_applies, trivial, w_rest, w_case⟩
end start1
theorem witness_1 : WitnessClaimed_1 := ⟨start1.p0, start1.e0, start1.about1, start1.theMethod, start1.args0, start1.below0, start1.atStart⟩
end Jvm.Pilot.@@N@@
