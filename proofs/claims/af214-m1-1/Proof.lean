import JvmDerived
import JvmDerived.Pilot.@@N@@Statement
import JvmDerived.Pilot.@@N@@Code
set_option linter.unusedVariables false
set_option linter.unusedSimpArgs false
namespace Jvm.RoadKit
open Sem ClassFile Op Lib Jvm.Stand Jvm.Free Jvm.LawKit
section New
variable {p : Program} {l : Launch} {e : Env} {R : Room} {s : State} {m : MethodId} {args : Array Value} {below : List Frame} {meth : Method} {c : Code} {T : State} {locs : List Loc} {cells slots : Nat}
theorem retI (X : Stand p l e R s m args below meth c T locs cells slots) (hx : p.tables.exec = Jvm.exec) {pc : Nat} {Ls : Array Slot} {z : Int32} {rest : List Value} (hret : meth.sig.returnType = some .int) (hd : decode c.code pc = .ok (.ireturn, 1)) {fs : List Frame}
    (hl : ∀ (f : JFrame) (acts : List Action), f.method = m → f.locked = none → f.entered = [] → (doReturn e (T.setTop f) acts (some (.int z))).1 = T.setFrames fs) : Steps p.tables e below (T.setTop (mkF m pc Ls (.int z :: rest))) (T.setFrames fs) := by
  have hm' : T.vm.method? m = some meth := X.method'
  have hn : narrow .int (.int z) = .int z := rfl
  show Steps p.tables e below (T.setTop { method := m, pc := pc, locals := Ls, stack := _ :: rest, locked := none }) _
  jvm_step X.here [X.here.top, hx, hd, hm', hret, hn]
  first | (intro acts; rw [hl _ acts rfl rfl rfl]) | rw [hl _ _ rfl rfl rfl]
  exact Steps.refl _
end New
end Jvm.RoadKit
/- laws to paste: Road.backV (cut by pick.py; bodies as the Statement names them) -/
namespace Jvm.Pilot.@@N@@
namespace StrChars
open Jvm Sem ClassFile Op Lib Jvm.Stand Jvm.Free.XT Jvm.Free.ALB Jvm.Free.JM Jvm.Free
open Jvm.Lib.Cold (StaticIs)
/-- a char array whose places are chars -/
def Ch (a : Addr) (A : Cell) (U : State) : Prop := Arr .char a A U ∧ Typed .char A
theorem Ch.mv {a : Addr} {A : Cell} {U U' : State} (h : Ch a A U) (hal : U.vm.Alike U'.vm) (hh : U'.heap = U.heap) : Ch a A U' := ⟨h.1.mv hal hh, h.2⟩
theorem Ch.keep {a : Addr} {A : Cell} {U U' : State} (h : Ch a A U) (hal : U.vm.Alike U'.vm) (hk : U'.heap[a]? = some A) : Ch a A U' := ⟨h.1.keep hal hk, h.2⟩
/-- what place i of a char[]'s cell holds -/
def cv (A : Cell) (i : Nat) : Int32 := match A.slots[i]? with | some (.int x) => x | _ => 0
theorem Ch.get {a : Addr} {A : Cell} {U : State} (h : Ch a A U) {i : Nat} (hi : i < A.slots.size) : A.slots[i]? = some (.int (cv A i)) := by
  have e := Array.getElem?_eq_getElem hi
  have f := h.2 i _ e
  unfold cv; rw [e]
  generalize A.slots[i] = v at f
  cases v <;> simp [fits] at f ⊢
/-- the byte that i2b leaves of a char -/
def lo8 (x : Int32) : Int32 := x.toInt8.toInt32
theorem fits_lo8 (y : Int32) : fits .byte (.int (lo8 y)) = true := by
  have h1 := y.toInt8.le_toInt
  have h2 := y.toInt8.toInt_lt
  simp only [lo8, fits, Bool.and_eq_true, decide_eq_true_eq, Int32.le_iff_toInt_le, Int8.toInt_toInt32, show (-128 : Int32).toInt = -128 from by decide, show (127 : Int32).toInt = 127 from by decide]
  omega
/-- A' is A but that each place j of lo .. hi - 1 holds f j -/
def Laid (A A' : Cell) (lo hi : Nat) (f : Nat → Value) : Prop := A'.cls = A.cls ∧ A'.vm = A.vm ∧ A'.slots.size = A.slots.size ∧ ∀ i, A'.slots[i]? = if lo ≤ i ∧ i < hi then some (f i) else A.slots[i]?
theorem Laid.zero (A : Cell) (lo : Nat) (f : Nat → Value) : Laid A A lo (lo + 0) f := ⟨rfl, rfl, rfl, fun i => by rw [if_neg (by omega)]⟩
theorem Laid.step {A Ak : Cell} {lo k : Nat} {f : Nat → Value} {v : Value} (h : Laid A Ak lo k f) (hlo : lo ≤ k) (hk : k < Ak.slots.size) (hv : v = f k) : Laid A (Ak.setSlot k v) lo (k + 1) f := by
  refine ⟨h.1, h.2.1, by simpa [Cell.setSlot] using h.2.2.1, fun i => ?_⟩
  by_cases e : k = i
  · subst e; rw [Cell.slots_setSlot_self v hk, if_pos (by omega), hv]
  · rw [Cell.slots_setSlot_ne v e, h.2.2.2 i]
    by_cases q : lo ≤ i ∧ i < k
    · rw [if_pos q, if_pos (by omega)]
    · rw [if_neg q, if_neg (by omega)]
def U16 : String := "java/lang/StringUTF16"
namespace Cmp5
def yN : MethodName := ⟨"java/lang/StringUTF16", "compress", "([CI[BII)I"⟩
abbrev yB : ByteArray := jdk_52_method_21_code
theorem d0 : decode yB 0 = .ok (.iconst 0, 1) := by decide +kernel
theorem d1 : decode yB 1 = .ok (.istore 5, 2) := by decide +kernel
theorem d3 : decode yB 3 = .ok (.iload 5, 2) := by decide +kernel
theorem d5 : decode yB 5 = .ok (.iload 4, 2) := by decide +kernel
theorem d7 : decode yB 7 = .ok (.if_icmp (.ge) 37, 3) := by decide +kernel
theorem d10 : decode yB 10 = .ok (.aload_n 0, 1) := by decide +kernel
theorem d11 : decode yB 11 = .ok (.iload_n 1, 1) := by decide +kernel
theorem d12 : decode yB 12 = .ok (.caload, 1) := by decide +kernel
theorem d13 : decode yB 13 = .ok (.istore 6, 2) := by decide +kernel
theorem d15 : decode yB 15 = .ok (.iload 6, 2) := by decide +kernel
theorem d17 : decode yB 17 = .ok (.sipush 255, 3) := by decide +kernel
theorem d20 : decode yB 20 = .ok (.if_icmp (.le) 6, 3) := by decide +kernel
theorem d26 : decode yB 26 = .ok (.aload_n 2, 1) := by decide +kernel
theorem d27 : decode yB 27 = .ok (.iload_n 3, 1) := by decide +kernel
theorem d28 : decode yB 28 = .ok (.iload 6, 2) := by decide +kernel
theorem d30 : decode yB 30 = .ok (.i2b, 1) := by decide +kernel
theorem d31 : decode yB 31 = .ok (.bastore, 1) := by decide +kernel
theorem d32 : decode yB 32 = .ok (.iinc 1 1, 3) := by decide +kernel
theorem d35 : decode yB 35 = .ok (.iinc 3 1, 3) := by decide +kernel
theorem d38 : decode yB 38 = .ok (.iinc 5 1, 3) := by decide +kernel
theorem d41 : decode yB 41 = .ok (.goto (-38), 3) := by decide +kernel
theorem d44 : decode yB 44 = .ok (.iload 4, 2) := by decide +kernel
theorem d46 : decode yB 46 = .ok (.ireturn, 1) := by decide +kernel
def site : List Cond := []
def tab : Cond := tabOf yN yB 7 (some .int) site
def P (b : Addr) (A : Cell) (d : Addr) (B : Cell) (o q len : Nat) (args : Array Value) (s : State) : Prop := args = #[.ref b, .int (Int32.ofNat o), .ref d, .int (Int32.ofNat q), .int (Int32.ofNat len)] ∧ Ch b A s ∧ Arr .byte d B s ∧ b ≠ d ∧ o + len ≤ A.slots.size ∧ q + len ≤ B.slots.size ∧ ∀ i, i < len → ¬ 255 < cv A (o + i)
def E (b : Addr) (A : Cell) (d : Addr) (B : Cell) (o q len : Nat) (r : Option Value) (s u : State) : Prop := r = some (.int (Int32.ofNat len)) ∧ ∃ B', Put d B' s u ∧ Laid B B' q (q + len) (fun j => Value.int (lo8 (cv A (o + (j - q)))))
/-- no char of the range above 255: len; the places written hold each char's low byte -/
theorem law (l : Launch) (b : Addr) (A : Cell) (d : Addr) (B : Cell) (o q len : Nat) : Law l yN 5 5 0 0 yB 7 (some .int) site (P b A d B o q len) (E b A d B o q len) (copyLocs d q len) 0 0 := by
  refine Law.of_walk (plainFor_of_name (by decide +kernel)) (by decide +kernel) (by decide +kernel) (by decide) (fun _ _ h => by rw [h.1]; rfl) (fun _ U U' hal hh h => ⟨h.1, h.2.1.mv hal hh, h.2.2.1.mv hal hh, h.2.2.2⟩) (fun r U U' V V' h1 hal h2 h => ⟨h.1, h.2.elim fun B' q => ⟨B', q.1.mv h1 h2, q.2⟩⟩) ?_
  intro p e s m args below meth c s₁ X0 hexec hbytes hml hret hlk hnm hown hh0 W hP
  obtain ⟨rfl, hA, hB, hne, l1, l2, hp⟩ := hP
  have c1 : Steps p.tables e below (s₁.setTop (entryFrame m #[.ref b, .int (Int32.ofNat o), .ref d, .int (Int32.ofNat q), .int (Int32.ofNat len)] 7)) (s₁.setTop (mkF m 0 #[.val (.ref b), .val (.int (Int32.ofNat o)), .val (.ref d), .val (.int (Int32.ofNat q)), .val (.int (Int32.ofNat len)), .unset, .unset] [])) := entry rfl
  have hA0 := hA.1.mv X0.warmed.alike hh0
  have hB0 := hB.mv X0.warmed.alike hh0
  have a31 := hA.1.2.2.2
  have c2 : Steps p.tables e below (s₁.setTop (entryFrame m #[.ref b, .int (Int32.ofNat o), .ref d, .int (Int32.ofNat q), .int (Int32.ofNat len)] 7)) (s₁.setTop (mkF m 3 #[.val (.ref b), .val (.int (Int32.ofNat o)), .val (.ref d), .val (.int (Int32.ofNat q)), .val (.int (Int32.ofNat len)), .val (.int 0), .unset] [])) := c1.trans (by
    refine iconstV X0.here hexec rfl 0 (hb hbytes d0) (by decide) ?_
    refine XS.istore X0.here hexec rfl (hb hbytes d1) rfl rfl ?_
    exact Steps.refl _)
  have loop : ∀ (r i : Nat), i + r = len → ∀ (z : Slot), (z = .unset ∨ ∃ w, z = .val w ∧ w.category = 1) → ∀ (Tl : State) (Bk : Cell), Stand p l e { frames := 0, locals := 0, cells := 0, slots := 0 } s m #[.ref b, .int (Int32.ofNat o), .ref d, .int (Int32.ofNat q), .int (Int32.ofNat len)] below meth c Tl ([] ++ copyLocs d q i) 0 0 → Put d Bk s₁ Tl → Laid B Bk q (q + i) (fun j => Value.int (lo8 (cv A (o + (j - q))))) →
      Steps p.tables e below (s₁.setTop (entryFrame m #[.ref b, .int (Int32.ofNat o), .ref d, .int (Int32.ofNat q), .int (Int32.ofNat len)] 7)) (Tl.setTop (mkF m 3 #[.val (.ref b), .val (.int (Int32.ofNat (o + i))), .val (.ref d), .val (.int (Int32.ofNat (q + i))), .val (.int (Int32.ofNat len)), .val (.int (Int32.ofNat i)), z] [])) → ∃ (T' : State) (B' : Cell) (z' : Slot), Stand p l e { frames := 0, locals := 0, cells := 0, slots := 0 } s m #[.ref b, .int (Int32.ofNat o), .ref d, .int (Int32.ofNat q), .int (Int32.ofNat len)] below meth c T' ([] ++ copyLocs d q len) 0 0 ∧ Put d B' s₁ T' ∧ Laid B B' q (q + len) (fun j => Value.int (lo8 (cv A (o + (j - q))))) ∧
      Steps p.tables e below (s₁.setTop (entryFrame m #[.ref b, .int (Int32.ofNat o), .ref d, .int (Int32.ofNat q), .int (Int32.ofNat len)] 7)) (T'.setTop (mkF m 3 #[.val (.ref b), .val (.int (Int32.ofNat (o + len))), .val (.ref d), .val (.int (Int32.ofNat (q + len))), .val (.int (Int32.ofNat len)), .val (.int (Int32.ofNat len)), z'] [])) := by
    intro r
    induction r with
    | zero =>
      intro i hi z hz Tl Bk Xl pl fl cl
      have hil : i = len := by omega
      rw [hil] at Xl fl cl
      exact ⟨Tl, Bk, z, Xl, pl, fl, cl⟩
    | succ r ih =>
      intro i hi z hz Tl Bk Xl pl fl cl
      have all := X0.warmed.alike.symm.trans Xl.warmed.alike
      have hAl := hA0.keep all (pl.other hne hA0.1)
      have hBk := hB0.like all pl.1 fl.1 fl.2.1 fl.2.2.1
      have hlt : q + i < Bk.slots.size := by rw [fl.2.2.1]; omega
      have c3 : Steps p.tables e below (s₁.setTop (entryFrame m #[.ref b, .int (Int32.ofNat o), .ref d, .int (Int32.ofNat q), .int (Int32.ofNat len)] 7)) (Tl.setTop (mkF m 12 #[.val (.ref b), .val (.int (Int32.ofNat (o + i))), .val (.ref d), .val (.int (Int32.ofNat (q + i))), .val (.int (Int32.ofNat len)), .val (.int (Int32.ofNat i)), z] [.int (Int32.ofNat (o + i)), .ref b])) := cl.trans (by
        refine XS.iload Xl.here hexec rfl (hb hbytes d3) rfl ?_
        refine XS.iload Xl.here hexec rfl (hb hbytes d5) rfl ?_
        refine XS.icmpNo Xl.here hexec rfl (hb hbytes d7) rfl (ii_ge_f (lt32 (by omega) (by omega))) ?_
        refine XS.aloadN Xl.here hexec rfl (hb hbytes d10) rfl rfl ?_
        refine XS.iloadN Xl.here hexec rfl (hb hbytes d11) rfl ?_
        exact Steps.refl _)
      have c4 : Steps p.tables e below (s₁.setTop (entryFrame m #[.ref b, .int (Int32.ofNat o), .ref d, .int (Int32.ofNat q), .int (Int32.ofNat len)] 7)) (Tl.setTop (mkF m 13 #[.val (.ref b), .val (.int (Int32.ofNat (o + i))), .val (.ref d), .val (.int (Int32.ofNat (q + i))), .val (.int (Int32.ofNat len)), .val (.int (Int32.ofNat i)), z] [.int (cv A (o + i))])) := c3.trans (by
        refine Xl.aget hexec hAl rfl (hA.get (i := o + i) (by omega)) rfl rfl (hb hbytes d12) ?_
        exact Steps.refl _)
      have c5 : Steps p.tables e below (s₁.setTop (entryFrame m #[.ref b, .int (Int32.ofNat o), .ref d, .int (Int32.ofNat q), .int (Int32.ofNat len)] 7)) (Tl.setTop (mkF m 15 #[.val (.ref b), .val (.int (Int32.ofNat (o + i))), .val (.ref d), .val (.int (Int32.ofNat (q + i))), .val (.int (Int32.ofNat len)), .val (.int (Int32.ofNat i)), .val (.int (cv A (o + i)))] [])) := c4.trans (by
        refine XS.istoreS Xl.here hexec rfl (hb hbytes d13) rfl rfl hz ?_
        exact Steps.refl _)
      have c6 : Steps p.tables e below (s₁.setTop (entryFrame m #[.ref b, .int (Int32.ofNat o), .ref d, .int (Int32.ofNat q), .int (Int32.ofNat len)] 7)) (Tl.setTop (mkF m 31 #[.val (.ref b), .val (.int (Int32.ofNat (o + i))), .val (.ref d), .val (.int (Int32.ofNat (q + i))), .val (.int (Int32.ofNat len)), .val (.int (Int32.ofNat i)), .val (.int (cv A (o + i)))] [.int (lo8 (cv A (o + i))), .int (Int32.ofNat (q + i)), .ref d])) := c5.trans (by
        refine XS.iload Xl.here hexec rfl (hb hbytes d15) rfl ?_
        refine sipushV Xl.here hexec rfl 255 (hb hbytes d17) (by decide) ?_
        refine XS.icmpYes Xl.here hexec rfl (pc0 := 20) rfl (hb hbytes d20) rfl (ii_le_t (hp i (by omega))) (by decide) rfl ?_
        refine XS.aloadN Xl.here hexec rfl (hb hbytes d26) rfl rfl ?_
        refine XS.iloadN Xl.here hexec rfl (hb hbytes d27) rfl ?_
        refine XS.iload Xl.here hexec rfl (hb hbytes d28) rfl ?_
        refine i2b Xl.here hexec rfl (hb hbytes d30) rfl ?_
        exact Steps.refl _)
      obtain ⟨T7, X7, p7, st7⟩ := Xl.aput hexec hBk rfl hlt rfl (fits_lo8 (cv A (o + i))) (g := (mkF m 31 #[.val (.ref b), .val (.int (Int32.ofNat (o + i))), .val (.ref d), .val (.int (Int32.ofNat (q + i))), .val (.int (Int32.ofNat len)), .val (.int (Int32.ofNat i)), .val (.int (cv A (o + i)))] [.int (lo8 (cv A (o + i))), .int (Int32.ofNat (q + i)), .ref d])) rfl (rest := []) rfl (hb hbytes d31)
      have c8 : Steps p.tables e below (s₁.setTop (entryFrame m #[.ref b, .int (Int32.ofNat o), .ref d, .int (Int32.ofNat q), .int (Int32.ofNat len)] 7)) (T7.setTop (mkF m 32 #[.val (.ref b), .val (.int (Int32.ofNat (o + i))), .val (.ref d), .val (.int (Int32.ofNat (q + i))), .val (.int (Int32.ofNat len)), .val (.int (Int32.ofNat i)), .val (.int (cv A (o + i)))] [])) := c6.trans (st7 _ (Steps.refl _))
      have c9 : Steps p.tables e below (s₁.setTop (entryFrame m #[.ref b, .int (Int32.ofNat o), .ref d, .int (Int32.ofNat q), .int (Int32.ofNat len)] 7)) (T7.setTop (mkF m 3 #[.val (.ref b), .val (.int (Int32.ofNat (o + i) + 1)), .val (.ref d), .val (.int (Int32.ofNat (q + i) + 1)), .val (.int (Int32.ofNat len)), .val (.int (Int32.ofNat i + 1)), .val (.int (cv A (o + i)))] [])) := c8.trans (by
        refine iincV X7.here hexec rfl 1 (hb hbytes d32) (by decide) rfl rfl ?_
        refine iincV X7.here hexec rfl 1 (hb hbytes d35) (by decide) rfl rfl ?_
        refine iincV X7.here hexec rfl 1 (hb hbytes d38) (by decide) rfl rfl ?_
        refine XS.goto X7.here hexec rfl (pc0 := 41) rfl (hb hbytes d41) (by decide) rfl ?_
        exact Steps.refl _)
      have c10 : Steps p.tables e below (s₁.setTop (entryFrame m #[.ref b, .int (Int32.ofNat o), .ref d, .int (Int32.ofNat q), .int (Int32.ofNat len)] 7)) (T7.setTop (mkF m 3 #[.val (.ref b), .val (.int (Int32.ofNat (o + (i + 1)))), .val (.ref d), .val (.int (Int32.ofNat (q + (i + 1)))), .val (.int (Int32.ofNat len)), .val (.int (Int32.ofNat (i + 1))), .val (.int (cv A (o + i)))] [])) := by
        have := c9
        rw [succ32, succ32, succ32] at this
        exact this
      exact ih (i + 1) (by omega) _ (Or.inr ⟨_, rfl, rfl⟩) T7 _ (by rw [copyLocs_step, ← List.append_assoc]; exact X7) (pl.trans p7) (fl.step (by omega) hlt (by simp)) c10
  obtain ⟨T9, B9, z9, X9, p9, f9, g9⟩ := loop len 0 (by omega) .unset (Or.inl rfl) s₁ B (by simpa [copyLocs] using X0) ⟨hB0.1, fun _ _ => rfl, rfl⟩ (Laid.zero _ _ _) c2
  have c11 : Steps p.tables e below (s₁.setTop (entryFrame m #[.ref b, .int (Int32.ofNat o), .ref d, .int (Int32.ofNat q), .int (Int32.ofNat len)] 7)) (T9.setTop (mkF m 46 #[.val (.ref b), .val (.int (Int32.ofNat (o + len))), .val (.ref d), .val (.int (Int32.ofNat (q + len))), .val (.int (Int32.ofNat len)), .val (.int (Int32.ofNat len)), z9] [.int (Int32.ofNat len)])) := g9.trans (by
    refine XS.iload X9.here hexec rfl (hb hbytes d3) rfl ?_
    refine XS.iload X9.here hexec rfl (hb hbytes d5) rfl ?_
    refine XS.icmpYes X9.here hexec rfl (pc0 := 7) rfl (hb hbytes d7) rfl (ii_ge_t (nlt32 (by omega) (Nat.le_refl _))) (by decide) rfl ?_
    refine XS.iload X9.here hexec rfl (hb hbytes d44) rfl ?_
    exact Steps.refl _)
  exact ⟨T9, some (.int (Int32.ofNat len)), _, _, _, X9, by simp, rfl, rfl, (fun h => by cases h), ⟨rfl, B9, p9.from hh0, f9⟩, fun fs hl => c11.trans (X9.ireturnOut hexec hret rfl (Or.inl rfl) (hb hbytes d46) hl)⟩
end Cmp5
namespace Cmp3
def yN : MethodName := ⟨"java/lang/StringUTF16", "compress", "([CII)[B"⟩
abbrev yB : ByteArray := jdk_52_method_16_code
theorem d0 : decode yB 0 = .ok (.iload_n 2, 1) := by decide +kernel
theorem d1 : decode yB 1 = .ok (.newarray .byte, 2) := by decide +kernel
theorem d3 : decode yB 3 = .ok (.astore_n 3, 1) := by decide +kernel
theorem d4 : decode yB 4 = .ok (.aload_n 0, 1) := by decide +kernel
theorem d5 : decode yB 5 = .ok (.iload_n 1, 1) := by decide +kernel
theorem d6 : decode yB 6 = .ok (.aload_n 3, 1) := by decide +kernel
theorem d7 : decode yB 7 = .ok (.iconst 0, 1) := by decide +kernel
theorem d8 : decode yB 8 = .ok (.iload_n 2, 1) := by decide +kernel
theorem d9 : decode yB 9 = .ok (.invokestatic 115, 3) := by decide +kernel
theorem d12 : decode yB 12 = .ok (.istore 4, 2) := by decide +kernel
theorem d14 : decode yB 14 = .ok (.iload 4, 2) := by decide +kernel
theorem d16 : decode yB 16 = .ok (.iload_n 2, 1) := by decide +kernel
theorem d17 : decode yB 17 = .ok (.if_icmp (.eq) 40, 3) := by decide +kernel
theorem d57 : decode yB 57 = .ok (.aload_n 3, 1) := by decide +kernel
theorem d58 : decode yB 58 = .ok (.areturn, 1) := by decide +kernel
def site : List Cond := [.arrayClass .byte, Cmp5.tab] ++ staticW U16 115 Cmp5.yN
def tab : Cond := tabOf yN yB 6 (some (.array .byte)) site
def P (b : Addr) (A : Cell) (o len : Nat) (args : Array Value) (s : State) : Prop := args = #[.ref b, .int (Int32.ofNat o), .int (Int32.ofNat len)] ∧ Ch b A s ∧ o + len ≤ A.slots.size ∧ len ≤ 536870912 ∧ ∀ i, i < len → ¬ 255 < cv A (o + i)
def E (b : Addr) (A : Cell) (o len : Nat) (r : Option Value) (s u : State) : Prop := NewArr .byte "[B" len (fun j => .int (lo8 (cv A (o + j)))) r s u ∧ u.heap.size = s.heap.size + 1
/-- no char of the range above 255: a new byte[] of their low bytes -/
theorem law (l : Launch) (b : Addr) (A : Cell) (o len : Nat) : Law l yN 3 3 1 18 yB 6 (some (.array .byte)) site (P b A o len) (E b A o len) [] 1 len := by
  refine Law.of_walk (plainFor_of_name (by decide +kernel)) (by decide +kernel) (by decide +kernel) (by decide) (fun _ _ h => by rw [h.1]; rfl) (fun _ U U' hal hh h => ⟨h.1, h.2.1.mv hal hh, h.2.2⟩) (fun r U U' V V' h1 hal h2 h => ⟨NewArr.mv r U U' V V' h1 hal h2 h.1, by rw [h1, h2]; exact h.2⟩) ?_
  intro p e s m args below meth c s₁ X0 hexec hbytes hml hret hlk hnm hown hh0 W hP
  obtain ⟨rfl, hA, l1, l2, hp⟩ := hP
  have a31 := hA.1.2.2.2
  have c1 : Steps p.tables e below (s₁.setTop (entryFrame m #[.ref b, .int (Int32.ofNat o), .int (Int32.ofNat len)] 6)) (s₁.setTop (mkF m 0 #[.val (.ref b), .val (.int (Int32.ofNat o)), .val (.int (Int32.ofNat len)), .unset, .unset, .unset] [])) := entry rfl
  have c2 : Steps p.tables e below (s₁.setTop (entryFrame m #[.ref b, .int (Int32.ofNat o), .int (Int32.ofNat len)] 6)) (s₁.setTop (mkF m 1 #[.val (.ref b), .val (.int (Int32.ofNat o)), .val (.int (Int32.ofNat len)), .unset, .unset, .unset] [.int (Int32.ofNat len)])) := c1.trans (by
    refine XS.iloadN X0.here hexec rfl (hb hbytes d0) rfl ?_
    exact Steps.refl _)
  obtain ⟨T3, B3, X3, ba3, bs3, bv3, bh3, bf3, st3⟩ := X0.anew hexec (atype := .byte) (wk W (.arrayClass .byte)) rfl (by show len * 1 ≤ _; omega) (by omega) (g := (mkF m 1 #[.val (.ref b), .val (.int (Int32.ofNat o)), .val (.int (Int32.ofNat len)), .unset, .unset, .unset] [.int (Int32.ofNat len)])) rfl (hb hbytes d1) (rest := []) rfl (Nat.le_refl _) (by show 0 + len ≤ len; omega)
  rw [hh0] at ba3 st3
  have kp3 : XT.Kept s T3 := (XT.Kept.of_eq hh0).push bh3
  have hA3 := hA.keep X3.warmed.alike (kp3 _ _ hA.1.1)
  have hne : b ≠ s.heap.size := hA.1.ne
  have c4 : Steps p.tables e below (s₁.setTop (entryFrame m #[.ref b, .int (Int32.ofNat o), .int (Int32.ofNat len)] 6)) (T3.setTop (mkF m 3 #[.val (.ref b), .val (.int (Int32.ofNat o)), .val (.int (Int32.ofNat len)), .unset, .unset, .unset] [.ref s.heap.size])) := c2.trans (st3 _ (Steps.refl _))
  have c5 : Steps p.tables e below (s₁.setTop (entryFrame m #[.ref b, .int (Int32.ofNat o), .int (Int32.ofNat len)] 6)) (T3.setTop (mkF m 9 #[.val (.ref b), .val (.int (Int32.ofNat o)), .val (.int (Int32.ofNat len)), .val (.ref s.heap.size), .unset, .unset] [.int (Int32.ofNat len), .int 0, .ref s.heap.size, .int (Int32.ofNat o), .ref b])) := c4.trans (by
    refine XS.astoreN X3.here hexec rfl (hb hbytes d3) rfl rfl rfl ?_
    refine XS.aloadN X3.here hexec rfl (hb hbytes d4) rfl rfl ?_
    refine XS.iloadN X3.here hexec rfl (hb hbytes d5) rfl ?_
    refine XS.aloadN X3.here hexec rfl (hb hbytes d6) rfl rfl ?_
    refine iconstV X3.here hexec rfl 0 (hb hbytes d7) (by decide) ?_
    refine XS.iloadN X3.here hexec rfl (hb hbytes d8) rfl ?_
    exact Steps.refl _)
  obtain ⟨v6, T6, X6, E6, g6⟩ := X3.callS hexec (Cmp5.law l b A s.heap.size B3 o 0 len) hown (wks W (staticW U16 115 Cmp5.yN)) (wk W Cmp5.tab) (W := 0) (Nat.le_of_ble_eq_true rfl) (Nat.le_of_ble_eq_true rfl) (Nat.le_refl _) (by show 0 + len + 0 ≤ len; omega) (g := (mkF m 9 #[.val (.ref b), .val (.int (Int32.ofNat o)), .val (.int (Int32.ofNat len)), .val (.ref s.heap.size), .unset, .unset] [.int (Int32.ofNat len), .int (Int32.ofNat 0), .ref s.heap.size, .int (Int32.ofNat o), .ref b])) rfl (by rw [hml]; rfl) c5 (argsL := [.ref b, .int (Int32.ofNat o), .ref s.heap.size, .int (Int32.ofNat 0), .int (Int32.ofNat len)]) (rest := []) rfl rfl (by show 2 * 0 + 0 ≤ _; decide) (hb hbytes d9) (⟨rfl, hA3, ba3, hne, l1, by rw [bs3]; simp, hp⟩)
  obtain ⟨rfl, B6, p6, f6⟩ := E6
  have c7 : Steps p.tables e below (s₁.setTop (entryFrame m #[.ref b, .int (Int32.ofNat o), .int (Int32.ofNat len)] 6)) (T6.setTop (mkF m 12 #[.val (.ref b), .val (.int (Int32.ofNat o)), .val (.int (Int32.ofNat len)), .val (.ref s.heap.size), .unset, .unset] [.int (Int32.ofNat len)])) := g6
  have c8 : Steps p.tables e below (s₁.setTop (entryFrame m #[.ref b, .int (Int32.ofNat o), .int (Int32.ofNat len)] 6)) (T6.setTop (mkF m 58 #[.val (.ref b), .val (.int (Int32.ofNat o)), .val (.int (Int32.ofNat len)), .val (.ref s.heap.size), .val (.int (Int32.ofNat len)), .unset] [.ref s.heap.size])) := c7.trans (by
    refine XS.istore X6.here hexec rfl (hb hbytes d12) rfl rfl ?_
    refine XS.iload X6.here hexec rfl (hb hbytes d14) rfl ?_
    refine XS.iloadN X6.here hexec rfl (hb hbytes d16) rfl ?_
    refine XS.icmpYes X6.here hexec rfl (pc0 := 17) rfl (hb hbytes d17) rfl (ii_eq_t rfl) (by decide) rfl ?_
    refine XS.aloadN X6.here hexec rfl (hb hbytes d57) rfl rfl ?_
    exact Steps.refl _)
  have X8 := X6.wide (L' := []) (cells' := 1) (slots' := len) (fun x hx hlt => by
    simp only [List.nil_append, copyLocs, List.mem_map, List.mem_range] at hx
    obtain ⟨i, -, rfl⟩ := hx
    exact absurd hlt (Nat.lt_irrefl _)) (Nat.le_refl _) (by omega)
  exact ⟨T6, some (.ref s.heap.size), _, _, _, X8, rfl, rfl, rfl, (fun h => by cases h), ⟨⟨rfl, B6, ba3.like (X3.warmed.alike.symm.trans X6.warmed.alike) p6.1 f6.1 f6.2.1 f6.2.2.1, f6.2.1.trans bv3, by rw [X6.warmed.alike.findClass, f6.1]; exact bf3, by rw [f6.2.2.1, bs3]; simp, fun j hj => by rw [f6.2.2.2 j, if_pos (by omega)]; rfl, kp3.put p6 (Nat.le_refl _)⟩, by rw [p6.2.2, bh3, hh0]; simp⟩, fun fs hl => c8.trans (X8.areturnOut hexec rfl hret rfl (hb hbytes d58) hl)⟩
end Cmp3
namespace CodL
def yN : MethodName := ⟨"java/lang/StringUTF16", "coderFromArrayLen", "([BI)B"⟩
abbrev yB : ByteArray := jdk_52_method_15_code
theorem d0 : decode yB 0 = .ok (.iload_n 1, 1) := by decide +kernel
theorem d1 : decode yB 1 = .ok (.aload_n 0, 1) := by decide +kernel
theorem d2 : decode yB 2 = .ok (.arraylength, 1) := by decide +kernel
theorem d3 : decode yB 3 = .ok (.isub, 1) := by decide +kernel
theorem d4 : decode yB 4 = .ok (.bipush 31, 2) := by decide +kernel
theorem d6 : decode yB 6 = .ok (.iushr, 1) := by decide +kernel
theorem d7 : decode yB 7 = .ok (.i2b, 1) := by decide +kernel
theorem d8 : decode yB 8 = .ok (.ireturn, 1) := by decide +kernel
def site : List Cond := []
def tab : Cond := tabOf yN yB 2 (some .byte) site
def P (d : Addr) (B : Cell) (args : Array Value) (s : State) : Prop := args = #[.ref d, .int (Int32.ofNat B.slots.size)] ∧ Arr .byte d B s
def E (r : Option Value) (s u : State) : Prop := XT.PureE (some (.int 0)) r s u
/-- an array as long as the number of chars: LATIN1 -/
theorem law (l : Launch) (d : Addr) (B : Cell) : Law l yN 2 2 0 0 yB 2 (some .byte) site (P d B) E [] 0 0 := by
  refine Law.of_walk (plainFor_of_name (by decide +kernel)) (by decide +kernel) (by decide +kernel) (by decide) (fun _ _ h => by rw [h.1]; rfl) (fun _ U U' hal hh h => ⟨h.1, h.2.mv hal hh⟩) (fun r U U' V V' h1 hal h2 h => XT.PureE.mv r U U' V V' h1 hal h2 h) ?_
  intro p e s m args below meth c s₁ X0 hexec hbytes hml hret hlk hnm hown hh0 W hP
  obtain ⟨rfl, hB⟩ := hP
  have hB0 := hB.mv X0.warmed.alike hh0
  have c1 : Steps p.tables e below (s₁.setTop (entryFrame m #[.ref d, .int (Int32.ofNat B.slots.size)] 2)) (s₁.setTop (mkF m 0 #[.val (.ref d), .val (.int (Int32.ofNat B.slots.size))] [])) := entry rfl
  have c2 : Steps p.tables e below (s₁.setTop (entryFrame m #[.ref d, .int (Int32.ofNat B.slots.size)] 2)) (s₁.setTop (mkF m 2 #[.val (.ref d), .val (.int (Int32.ofNat B.slots.size))] [.ref d, .int (Int32.ofNat B.slots.size)])) := c1.trans (by
    refine XS.iloadN X0.here hexec rfl (hb hbytes d0) rfl ?_
    refine XS.aloadN X0.here hexec rfl (hb hbytes d1) rfl rfl ?_
    exact Steps.refl _)
  have c3 : Steps p.tables e below (s₁.setTop (entryFrame m #[.ref d, .int (Int32.ofNat B.slots.size)] 2)) (s₁.setTop (mkF m 8 #[.val (.ref d), .val (.int (Int32.ofNat B.slots.size))] [.int (lo8 (ushr (Int32.ofNat B.slots.size - Int32.ofNat B.slots.size) 31))])) := c2.trans (by
    refine X0.alen hexec hB0 rfl rfl (hb hbytes d2) ?_
    refine XS.isub X0.here hexec rfl (hb hbytes d3) rfl ?_
    refine bipushV X0.here hexec rfl 31 (hb hbytes d4) (by decide) ?_
    refine iushr X0.here hexec rfl (hb hbytes d6) rfl ?_
    refine i2b X0.here hexec rfl (hb hbytes d7) rfl ?_
    exact Steps.refl _)
  have e0 : lo8 (ushr (Int32.ofNat B.slots.size - Int32.ofNat B.slots.size) 31) = 0 := by rw [Int32.sub_self]; decide
  rw [e0] at c3
  exact ⟨s₁, some (.int 0), _, _, _, X0, rfl, rfl, rfl, (fun h => by cases h), ⟨rfl, hh0⟩, fun fs hl => c3.trans (X0.ireturnOut hexec hret rfl (Or.inr (Or.inr (Or.inl rfl))) (hb hbytes d8) hl)⟩
end CodL
/-- the String at a is Latin-1 over a new byte[] (the heap's one new cell): the low bytes of the len chars of A from o on; every cell but a is kept -/
def Got (a : Addr) (D : Cell) (fV fC : Field) (A : Cell) (o len : Nat) (r : Option Value) (s u : State) : Prop := r = none ∧ ∃ D' V : Cell, Blank "java/lang/String" a D' u ∧ Same D D' [fV.slot, fC.slot] ∧ D'.slots[fV.slot]? = some (.ref s.heap.size) ∧ D'.slots[fC.slot]? = some (.int 0) ∧ Arr .byte s.heap.size V u ∧ V.vm = .none ∧ u.vm.findClass "[B" = some V.cls ∧ V.slots.size = len ∧ (∀ j, j < len → V.slots[j]? = some (.int (lo8 (cv A (o + j))))) ∧ (∀ (y : Addr) (c : Cell), y ≠ a → s.heap[y]? = some c → u.heap[y]? = some c) ∧ u.heap.size = s.heap.size + 1
theorem Got.mv {a : Addr} {D A : Cell} {fV fC : Field} {o len : Nat} : ∀ r (U U' V V' : State), U'.heap = U.heap → V.vm.Alike V'.vm → V'.heap = V.heap → Got a D fV fC A o len r U V → Got a D fV fC A o len r U' V' :=
  fun r U U' V V' h1 hal h2 ⟨e0, D', X, a1, a2, a3, a4, a5, a6, a7, a8, a9, a10, a11⟩ => ⟨e0, D', X, a1.mv hal h2, a2, by rw [h1]; exact a3, a4, by rw [h1]; exact a5.mv hal h2, a6, by rw [hal.findClass]; exact a7, a8, a9, by rw [h1, h2]; exact a10, by rw [h1, h2]; exact a11⟩
namespace New4
def yN : MethodName := ⟨"java/lang/String", "<init>", "([CIILjava/lang/Void;)V"⟩
abbrev yB : ByteArray := jdk_42_method_149_code
theorem d0 : decode yB 0 = .ok (.aload_n 0, 1) := by decide +kernel
theorem d1 : decode yB 1 = .ok (.invokespecial 1, 3) := by decide +kernel
theorem d4 : decode yB 4 = .ok (.iload_n 3, 1) := by decide +kernel
theorem d5 : decode yB 5 = .ok (.ifCond (.ne) 22, 3) := by decide +kernel
theorem d27 : decode yB 27 = .ok (.getstatic 38, 3) := by decide +kernel
theorem d30 : decode yB 30 = .ok (.ifCond (.eq) 28, 3) := by decide +kernel
theorem d33 : decode yB 33 = .ok (.aload_n 1, 1) := by decide +kernel
theorem d34 : decode yB 34 = .ok (.iload_n 2, 1) := by decide +kernel
theorem d35 : decode yB 35 = .ok (.iload_n 3, 1) := by decide +kernel
theorem d36 : decode yB 36 = .ok (.invokestatic 177, 3) := by decide +kernel
theorem d39 : decode yB 39 = .ok (.astore 5, 2) := by decide +kernel
theorem d41 : decode yB 41 = .ok (.aload_n 0, 1) := by decide +kernel
theorem d42 : decode yB 42 = .ok (.aload 5, 2) := by decide +kernel
theorem d44 : decode yB 44 = .ok (.iload_n 3, 1) := by decide +kernel
theorem d45 : decode yB 45 = .ok (.invokestatic 47, 3) := by decide +kernel
theorem d48 : decode yB 48 = .ok (.putfield 15, 3) := by decide +kernel
theorem d51 : decode yB 51 = .ok (.aload_n 0, 1) := by decide +kernel
theorem d52 : decode yB 52 = .ok (.aload 5, 2) := by decide +kernel
theorem d54 : decode yB 54 = .ok (.putfield 9, 3) := by decide +kernel
theorem d57 : decode yB 57 = .ok (.return_, 1) := by decide +kernel
def site : List Cond := [.fieldLink "java/lang/String" 38 "java/lang/String" "COMPACT_STRINGS" "Z", Cmp3.tab, CodL.tab, .laysFinal "java/lang/String" "java/lang/String" "value" "[B", .fieldLink "java/lang/String" 9 "java/lang/String" "value" "[B", .laysFinal "java/lang/String" "java/lang/String" "coder" "B", .fieldLink "java/lang/String" 15 "java/lang/String" "coder" "B"] ++ objW "java/lang/String" 1 ++ staticW "java/lang/String" 177 Cmp3.yN ++ staticW "java/lang/String" 47 CodL.yN
def tab : Cond := tabOf yN yB 6 none site
def P (a : Addr) (D : Cell) (fV fC : Field) (b : Addr) (A : Cell) (z : Int32) (o len : Nat) (args : Array Value) (s : State) : Prop := args = #[.ref a, .ref b, .int (Int32.ofNat o), .int (Int32.ofNat len), .null] ∧ Blank "java/lang/String" a D s ∧ Found "java/lang/String" "value" "[B" fV s ∧ Found "java/lang/String" "coder" "B" fC s ∧ Ch b A s ∧ StaticIs s "java/lang/String" "COMPACT_STRINGS" "Z" (.int z) ∧ ¬ z = 0 ∧ 0 < len ∧ o + len ≤ A.slots.size ∧ len ≤ 536870912 ∧ ∀ i, i < len → ¬ 255 < cv A (o + i)
def E (a : Addr) (D : Cell) (fV fC : Field) (A : Cell) (o len : Nat) (r : Option Value) (s u : State) : Prop := Got a D fV fC A o len r s u
/-- len > 0, no char of the range above 255: a Latin-1 String of their low bytes -/
theorem law (l : Launch) (a : Addr) (D : Cell) (fV fC : Field) (b : Addr) (A : Cell) (z : Int32) (o len : Nat) : Law l yN 5 4 2 35 yB 6 none site (P a D fV fC b A z o len) (E a D fV fC A o len) [⟨a, fC.slot⟩, ⟨a, fV.slot⟩] 1 len := by
  refine Law.of_walk (plainFor_of_name (by decide +kernel)) (by decide +kernel) (by decide +kernel) (by decide) (fun _ _ h => by rw [h.1]; rfl) (fun _ U U' hal hh h => ⟨h.1, h.2.1.mv hal hh, h.2.2.1.al hal, h.2.2.2.1.al hal, h.2.2.2.2.1.mv hal hh, h.2.2.2.2.2.1.there hal hh, h.2.2.2.2.2.2⟩) (fun r U U' V V' h1 hal h2 h => Got.mv r U U' V V' h1 hal h2 h) ?_
  intro p e s m args below meth c s₁ X0 hexec hbytes hml hret hlk hnm hown hh0 W hP
  obtain ⟨rfl, hB, f1, f2, hA, s1, hz, l0, l1, l2, hp⟩ := hP
  have a31 := hA.1.2.2.2
  have c1 : Steps p.tables e below (s₁.setTop (entryFrame m #[.ref a, .ref b, .int (Int32.ofNat o), .int (Int32.ofNat len), .null] 6)) (s₁.setTop (mkF m 0 #[.val (.ref a), .val (.ref b), .val (.int (Int32.ofNat o)), .val (.int (Int32.ofNat len)), .val .null, .unset] [])) := entry rfl
  have c2 : Steps p.tables e below (s₁.setTop (entryFrame m #[.ref a, .ref b, .int (Int32.ofNat o), .int (Int32.ofNat len), .null] 6)) (s₁.setTop (mkF m 1 #[.val (.ref a), .val (.ref b), .val (.int (Int32.ofNat o)), .val (.int (Int32.ofNat len)), .val .null, .unset] [.ref a])) := c1.trans (by
    refine XS.aloadN X0.here hexec rfl (hb hbytes d0) rfl rfl ?_
    exact Steps.refl _)
  obtain ⟨T3, X3, q3, st3⟩ := X0.oinit hexec hown (wks W (objW "java/lang/String" 1)) (g := (mkF m 1 #[.val (.ref a), .val (.ref b), .val (.int (Int32.ofNat o)), .val (.int (Int32.ofNat len)), .val .null, .unset] [.ref a])) rfl (by rw [hml]; rfl) (rest := []) rfl (hb hbytes d1) (W := 0) (by show 2 * 0 + 0 ≤ _; decide) (Nat.le_of_ble_eq_true rfl) (Nat.le_of_ble_eq_true rfl)
  have hh3 := q3.trans hh0
  have c4 : Steps p.tables e below (s₁.setTop (entryFrame m #[.ref a, .ref b, .int (Int32.ofNat o), .int (Int32.ofNat len), .null] 6)) (T3.setTop (mkF m 27 #[.val (.ref a), .val (.ref b), .val (.int (Int32.ofNat o)), .val (.int (Int32.ofNat len)), .val .null, .unset] [])) := (c2.trans (st3 _ (Steps.refl _))).trans (by
    refine XS.iloadN X3.here hexec rfl (hb hbytes d4) rfl ?_
    refine XS.ifYes X3.here hexec rfl (pc0 := 5) rfl (hb hbytes d5) rfl (i0_ne_t (nz32 (by omega) l0)) (by decide) rfl ?_
    exact Steps.refl _)
  obtain ⟨T5, X5, q5, st5⟩ := X3.sget hexec hown (wk W (.fieldLink "java/lang/String" 38 "java/lang/String" "COMPACT_STRINGS" "Z")) s1 (fun _ _ h => by rw [hh3]; exact h) (g := (mkF m 27 #[.val (.ref a), .val (.ref b), .val (.int (Int32.ofNat o)), .val (.int (Int32.ofNat len)), .val .null, .unset] [])) rfl (hb hbytes d27)
  have hh5 := q5.trans hh3
  have c6 : Steps p.tables e below (s₁.setTop (entryFrame m #[.ref a, .ref b, .int (Int32.ofNat o), .int (Int32.ofNat len), .null] 6)) (T5.setTop (mkF m 30 #[.val (.ref a), .val (.ref b), .val (.int (Int32.ofNat o)), .val (.int (Int32.ofNat len)), .val .null, .unset] [.int z])) := c4.trans (st5 _ (Steps.refl _))
  have c7 : Steps p.tables e below (s₁.setTop (entryFrame m #[.ref a, .ref b, .int (Int32.ofNat o), .int (Int32.ofNat len), .null] 6)) (T5.setTop (mkF m 36 #[.val (.ref a), .val (.ref b), .val (.int (Int32.ofNat o)), .val (.int (Int32.ofNat len)), .val .null, .unset] [.int (Int32.ofNat len), .int (Int32.ofNat o), .ref b])) := c6.trans (by
    refine XS.ifNo X5.here hexec rfl (hb hbytes d30) rfl (i0_eq_f hz) ?_
    refine XS.aloadN X5.here hexec rfl (hb hbytes d33) rfl rfl ?_
    refine XS.iloadN X5.here hexec rfl (hb hbytes d34) rfl ?_
    refine XS.iloadN X5.here hexec rfl (hb hbytes d35) rfl ?_
    exact Steps.refl _)
  obtain ⟨v8, T8, X8, E8, g8⟩ := X5.callS hexec (Cmp3.law l b A o len) hown (wks W (staticW "java/lang/String" 177 Cmp3.yN)) (wk W Cmp3.tab) (W := 0) (Nat.le_of_ble_eq_true rfl) (Nat.le_of_ble_eq_true rfl) (Nat.le_refl _) (by show 0 + len ≤ len; omega) (g := (mkF m 36 #[.val (.ref a), .val (.ref b), .val (.int (Int32.ofNat o)), .val (.int (Int32.ofNat len)), .val .null, .unset] [.int (Int32.ofNat len), .int (Int32.ofNat o), .ref b])) rfl (by rw [hml]; rfl) c7 (argsL := [.ref b, .int (Int32.ofNat o), .int (Int32.ofNat len)]) (rest := []) rfl rfl (by show 2 * 0 + 0 ≤ _; decide) (hb hbytes d36) (⟨rfl, hA.mv X5.warmed.alike hh5, l1, l2, hp⟩)
  obtain ⟨e8, z8⟩ := E8
  obtain ⟨rfl, N, n1, n2, n3, n4, n5, n6⟩ := NewArr.mv _ T5 s _ _ hh5.symm (Vm.Alike.refl _) rfl e8
  rw [hh5] at z8
  have hB1 := hB.keep X8.warmed.alike (n6 _ _ hB.1)
  have hne : s.heap.size ≠ a := (Nat.ne_of_lt (Array.getElem?_eq_some_iff.mp hB.1).1).symm
  have c9 : Steps p.tables e below (s₁.setTop (entryFrame m #[.ref a, .ref b, .int (Int32.ofNat o), .int (Int32.ofNat len), .null] 6)) (T8.setTop (mkF m 39 #[.val (.ref a), .val (.ref b), .val (.int (Int32.ofNat o)), .val (.int (Int32.ofNat len)), .val .null, .unset] [.ref s.heap.size])) := g8
  have c10 : Steps p.tables e below (s₁.setTop (entryFrame m #[.ref a, .ref b, .int (Int32.ofNat o), .int (Int32.ofNat len), .null] 6)) (T8.setTop (mkF m 45 #[.val (.ref a), .val (.ref b), .val (.int (Int32.ofNat o)), .val (.int (Int32.ofNat len)), .val .null, .val (.ref s.heap.size)] [.int (Int32.ofNat N.slots.size), .ref s.heap.size, .ref a])) := by
    have hc : Steps p.tables e below (s₁.setTop (entryFrame m #[.ref a, .ref b, .int (Int32.ofNat o), .int (Int32.ofNat len), .null] 6)) (T8.setTop (mkF m 45 #[.val (.ref a), .val (.ref b), .val (.int (Int32.ofNat o)), .val (.int (Int32.ofNat len)), .val .null, .val (.ref s.heap.size)] [.int (Int32.ofNat len), .ref s.heap.size, .ref a])) := c9.trans (by
      refine XS.astore X8.here hexec rfl (hb hbytes d39) rfl rfl rfl ?_
      refine XS.aloadN X8.here hexec rfl (hb hbytes d41) rfl rfl ?_
      refine XS.aload X8.here hexec rfl (hb hbytes d42) rfl rfl ?_
      refine XS.iloadN X8.here hexec rfl (hb hbytes d44) rfl ?_
      exact Steps.refl _)
    rw [n4]; exact hc
  obtain ⟨v11, T11, X11, E11, g11⟩ := X8.callS hexec (CodL.law l s.heap.size N) hown (wks W (staticW "java/lang/String" 47 CodL.yN)) (wk W CodL.tab) (W := 1) (Nat.le_of_ble_eq_true rfl) (Nat.le_of_ble_eq_true rfl) (Nat.le_refl _) (by show 0 + len + 0 ≤ len; omega) (g := (mkF m 45 #[.val (.ref a), .val (.ref b), .val (.int (Int32.ofNat o)), .val (.int (Int32.ofNat len)), .val .null, .val (.ref s.heap.size)] [.int (Int32.ofNat N.slots.size), .ref s.heap.size, .ref a])) rfl (by rw [hml]; rfl) c10 (argsL := [.ref s.heap.size, .int (Int32.ofNat N.slots.size)]) (rest := [.ref a]) rfl rfl (by show 2 * 0 + (1 + 0) ≤ _; decide) (hb hbytes d45) (⟨rfl, n1⟩)
  obtain ⟨rfl, q11⟩ := E11
  have hB11 := hB1.mv (X8.warmed.alike.symm.trans X11.warmed.alike) q11
  have c12 : Steps p.tables e below (s₁.setTop (entryFrame m #[.ref a, .ref b, .int (Int32.ofNat o), .int (Int32.ofNat len), .null] 6)) (T11.setTop (mkF m 48 #[.val (.ref a), .val (.ref b), .val (.int (Int32.ofNat o)), .val (.int (Int32.ofNat len)), .val .null, .val (.ref s.heap.size)] [.int 0, .ref a])) := g11
  obtain ⟨T13, X13, p13, bl13, sl13, st13⟩ := X11.finit hexec hown (wk W (.fieldLink "java/lang/String" 15 "java/lang/String" "coder" "B")) (Or.inr ⟨_, (wk W (.laysFinal "java/lang/String" "java/lang/String" "coder" "B"))⟩) (Or.inl ⟨rfl, hnm⟩) f2 (Or.inl rfl) hB11 (t := .byte) (by decide +kernel) rfl (g := (mkF m 48 #[.val (.ref a), .val (.ref b), .val (.int (Int32.ofNat o)), .val (.int (Int32.ofNat len)), .val .null, .val (.ref s.heap.size)] [.int 0, .ref a])) rfl (rest := []) rfl (hb hbytes d48)
  have c14 : Steps p.tables e below (s₁.setTop (entryFrame m #[.ref a, .ref b, .int (Int32.ofNat o), .int (Int32.ofNat len), .null] 6)) (T13.setTop (mkF m 54 #[.val (.ref a), .val (.ref b), .val (.int (Int32.ofNat o)), .val (.int (Int32.ofNat len)), .val .null, .val (.ref s.heap.size)] [.ref s.heap.size, .ref a])) := (c12.trans (st13 _ (Steps.refl _))).trans (by
    refine XS.aloadN X13.here hexec rfl (hb hbytes d51) rfl rfl ?_
    refine XS.aload X13.here hexec rfl (hb hbytes d52) rfl rfl ?_
    exact Steps.refl _)
  obtain ⟨T15, X15, p15, bl15, sl15, st15⟩ := X13.finit hexec hown (wk W (.fieldLink "java/lang/String" 9 "java/lang/String" "value" "[B")) (Or.inr ⟨_, (wk W (.laysFinal "java/lang/String" "java/lang/String" "value" "[B"))⟩) (Or.inl ⟨rfl, hnm⟩) f1 (Or.inl rfl) bl13 (t := (.array .byte)) (by decide +kernel) rfl (g := (mkF m 54 #[.val (.ref a), .val (.ref b), .val (.int (Int32.ofNat o)), .val (.int (Int32.ofNat len)), .val .null, .val (.ref s.heap.size)] [.ref s.heap.size, .ref a])) rfl (rest := []) rfl (hb hbytes d54)
  have c16 : Steps p.tables e below (s₁.setTop (entryFrame m #[.ref a, .ref b, .int (Int32.ofNat o), .int (Int32.ofNat len), .null] 6)) (T15.setTop (mkF m 57 #[.val (.ref a), .val (.ref b), .val (.int (Int32.ofNat o)), .val (.int (Int32.ofNat len)), .val .null, .val (.ref s.heap.size)] [])) := c14.trans (st15 _ (Steps.refl _))
  have ap := apart (Or.inr ⟨_, (wk W (.laysFinal "java/lang/String" "java/lang/String" "value" "[B"))⟩) (Or.inr ⟨_, (wk W (.laysFinal "java/lang/String" "java/lang/String" "coder" "B"))⟩) f1 f2 (t₁ := .array .byte) (t₂ := .byte) (by decide +kernel) (by decide +kernel) (by decide)
  have al := X8.warmed.alike.symm.trans X15.warmed.alike
  have n7 : T11.heap[s.heap.size]? = some N := by rw [q11]; exact n1.1
  exact ⟨T15, none, _, _, _, X15, by simp, rfl, by omega, (fun _ => rfl), ⟨rfl, _, N, bl15, ((Same.refl D _).set _ (by simp)).set _ (by simp), sl15, (Cell.slots_setSlot_ne _ ap).trans sl13, n1.keep al (p15.other hne (p13.other hne n7)), n2, by rw [al.findClass]; exact n3, n4, n5, fun y c h1 h2 => p15.other h1 (p13.other h1 (by rw [q11]; exact n6 y c h2)), by rw [p15.2.2, p13.2.2, q11]; exact z8⟩, fun fs hl => c16.trans (X15.returnOut hexec hret (hb hbytes d57) hl)⟩
end New4
namespace New1
def yN : MethodName := ⟨"java/lang/String", "<init>", "([C)V"⟩
abbrev yB : ByteArray := jdk_42_method_3_code
theorem d0 : decode yB 0 = .ok (.aload_n 0, 1) := by decide +kernel
theorem d1 : decode yB 1 = .ok (.aload_n 1, 1) := by decide +kernel
theorem d2 : decode yB 2 = .ok (.iconst 0, 1) := by decide +kernel
theorem d3 : decode yB 3 = .ok (.aload_n 1, 1) := by decide +kernel
theorem d4 : decode yB 4 = .ok (.arraylength, 1) := by decide +kernel
theorem d5 : decode yB 5 = .ok (.aconst_null, 1) := by decide +kernel
theorem d6 : decode yB 6 = .ok (.invokespecial 27, 3) := by decide +kernel
theorem d9 : decode yB 9 = .ok (.return_, 1) := by decide +kernel
def site : List Cond := [New4.tab] ++ initW "java/lang/String" 27 New4.yN
def tab : Cond := tabOf yN yB 2 none site
def P (a : Addr) (D : Cell) (fV fC : Field) (b : Addr) (A : Cell) (z : Int32) (args : Array Value) (s : State) : Prop := args = #[.ref a, .ref b] ∧ Blank "java/lang/String" a D s ∧ Found "java/lang/String" "value" "[B" fV s ∧ Found "java/lang/String" "coder" "B" fC s ∧ Ch b A s ∧ StaticIs s "java/lang/String" "COMPACT_STRINGS" "Z" (.int z) ∧ ¬ z = 0 ∧ 0 < A.slots.size ∧ A.slots.size ≤ 536870912 ∧ ∀ i, i < A.slots.size → ¬ 255 < cv A i
def E (a : Addr) (D : Cell) (fV fC : Field) (A : Cell) (r : Option Value) (s u : State) : Prop := Got a D fV fC A 0 A.slots.size r s u
/-- new String(chars), not empty, no char above 255: a Latin-1 String of their low bytes -/
theorem law (l : Launch) (a : Addr) (D : Cell) (fV fC : Field) (b : Addr) (A : Cell) (z : Int32) : Law l yN 2 1 3 52 yB 2 none site (P a D fV fC b A z) (E a D fV fC A) [⟨a, fC.slot⟩, ⟨a, fV.slot⟩] 1 A.slots.size := by
  refine Law.of_walk (plainFor_of_name (by decide +kernel)) (by decide +kernel) (by decide +kernel) (by decide) (fun _ _ h => by rw [h.1]; rfl) (fun _ U U' hal hh h => ⟨h.1, h.2.1.mv hal hh, h.2.2.1.al hal, h.2.2.2.1.al hal, h.2.2.2.2.1.mv hal hh, h.2.2.2.2.2.1.there hal hh, h.2.2.2.2.2.2⟩) (fun r U U' V V' h1 hal h2 h => Got.mv r U U' V V' h1 hal h2 h) ?_
  intro p e s m args below meth c s₁ X0 hexec hbytes hml hret hlk hnm hown hh0 W hP
  obtain ⟨rfl, hB, f1, f2, hA, s1, hz, l0, l2, hp⟩ := hP
  have c1 : Steps p.tables e below (s₁.setTop (entryFrame m #[.ref a, .ref b] 2)) (s₁.setTop (mkF m 0 #[.val (.ref a), .val (.ref b)] [])) := entry rfl
  have c2 : Steps p.tables e below (s₁.setTop (entryFrame m #[.ref a, .ref b] 2)) (s₁.setTop (mkF m 6 #[.val (.ref a), .val (.ref b)] [.null, .int (Int32.ofNat A.slots.size), .int 0, .ref b, .ref a])) := c1.trans (by
    refine XS.aloadN X0.here hexec rfl (hb hbytes d0) rfl rfl ?_
    refine XS.aloadN X0.here hexec rfl (hb hbytes d1) rfl rfl ?_
    refine iconstV X0.here hexec rfl 0 (hb hbytes d2) (by decide) ?_
    refine XS.aloadN X0.here hexec rfl (hb hbytes d3) rfl rfl ?_
    refine X0.alen hexec (hA.1.mv X0.warmed.alike hh0) rfl rfl (hb hbytes d4) ?_
    refine XS.aconstNull X0.here hexec rfl (hb hbytes d5) ?_
    exact Steps.refl _)
  obtain ⟨v3, T3, X3, E3, g3⟩ := X0.callN hexec (New4.law l a D fV fC b A z 0 A.slots.size) rfl hown (wks W (initW "java/lang/String" 27 New4.yN)) (W New4.tab (by simp only [site, List.mem_cons, List.mem_append, true_or, or_true])) (W := 0) (Nat.le_of_ble_eq_true rfl) (Nat.le_of_ble_eq_true rfl) (Nat.le_refl _) (by show 0 + A.slots.size ≤ A.slots.size; omega) (g := (mkF m 6 #[.val (.ref a), .val (.ref b)] [.null, .int (Int32.ofNat A.slots.size), .int (Int32.ofNat 0), .ref b, .ref a])) rfl (by rw [hml]; rfl) c2 (argsL := [.ref b, .int (Int32.ofNat 0), .int (Int32.ofNat A.slots.size), .null]) (rest := []) rfl rfl (by show 2 * 0 + 0 ≤ _; decide) (hb hbytes d6) (⟨rfl, hB.mv X0.warmed.alike hh0, f1.al X0.warmed.alike, f2.al X0.warmed.alike, hA.mv X0.warmed.alike hh0, s1.there X0.warmed.alike hh0, hz, l0, by omega, l2, fun i hi => by rw [Nat.zero_add]; exact hp i hi⟩)
  have e0 := Got.mv _ s₁ s _ _ hh0.symm (Vm.Alike.refl _) rfl E3
  obtain rfl := e0.1
  have c4 : Steps p.tables e below (s₁.setTop (entryFrame m #[.ref a, .ref b] 2)) (T3.setTop (mkF m 9 #[.val (.ref a), .val (.ref b)] [])) := g3
  exact ⟨T3, none, _, _, _, X3, by simp, rfl, by omega, (fun _ => rfl), e0, fun fs hl => c4.trans (X3.returnOut hexec hret (hb hbytes d9) hl)⟩
theorem pays {l : Launch} {R : Room} {p : Program} {e : Env} {below : List Frame} {s : State} {sargs : Array Value} {len W : Nat} (a : Addr) (D : Cell) (fV fC : Field) (b : Addr) (A : Cell) (z : Int32) (htab : tab.before sargs s = true) (hfr : 4 ≤ R.frames) (hlo : W + 65 ≤ R.locals) :
    Back l R p e below s sargs yN len W (fun A₁ a₁ => A₁.cells + 1 ≤ R.cells ∧ A₁.slots + A.slots.size ≤ R.slots ∧ P a D fV fC b A z a₁ A₁.U) (fun A₁ _ v₁ B₁ => E a D fV fC A v₁ A₁.U B₁.U ∧ B₁.locs = A₁.locs ++ [⟨a, fC.slot⟩, ⟨a, fV.slot⟩] ∧ B₁.cells = A₁.cells + 1 ∧ B₁.slots = A₁.slots + A.slots.size) :=
  (law l a D fV fC b A z).pays htab hfr (by omega)
end New1
end StrChars
namespace StrChars.Road
open Jvm Sem ClassFile Op Lib Jvm.Stand Jvm.Free Jvm.Free.XT
open Jvm.Lib.Cold (StaticIs)
abbrev ST : String := "java/lang/String"
/-- every table word that New1's law asks, flat -/
abbrev words : List Jvm.Cond := [.code New1.yN New1.yB 2 none, .initialized ST, .methodLink ST 27 New4.yN, .instanceMethod New4.yN,
  .code New4.yN New4.yB 6 none, .fieldLink ST 38 ST "COMPACT_STRINGS" "Z", .laysFinal ST ST "value" "[B", .fieldLink ST 9 ST "value" "[B", .laysFinal ST ST "coder" "B", .fieldLink ST 15 ST "coder" "B",
  .methodLink ST 1 Lib.objectInit, .instanceMethod Lib.objectInit, .code Lib.objectInit ⟨#[0xb1]⟩ 1 none, .methodLink ST 177 Cmp3.yN, .static Cmp3.yN, .methodLink ST 47 CodL.yN, .static CodL.yN,
  .code Cmp3.yN Cmp3.yB 6 (some (.array .byte)), .initialized U16, .arrayClass .byte, .methodLink U16 115 Cmp5.yN, .static Cmp5.yN, .code Cmp5.yN Cmp5.yB 7 (some .int), .code CodL.yN CodL.yB 2 (some .byte)]
theorem tab_of {a : Array Value} {s : State} (h : ∀ w ∈ words, w.before a s = true) : New1.tab.before a s = true := by
  have h5 : Cmp5.tab.before a s = true := unparts (wk h (.code Cmp5.yN Cmp5.yB 7 (some .int))) (wks h (.initialized Cmp5.yN.cls :: Cmp5.site))
  have hc : CodL.tab.before a s = true := unparts (wk h (.code CodL.yN CodL.yB 2 (some .byte))) (wks h (.initialized CodL.yN.cls :: CodL.site))
  have q5 : ∀ w ∈ Cmp5.tab :: words, w.before a s = true := fun w hw => (List.mem_cons.mp hw).elim (fun e => e ▸ h5) (h w)
  have h3 : Cmp3.tab.before a s = true := unparts (wk q5 (.code Cmp3.yN Cmp3.yB 6 (some (.array .byte)))) (wks q5 (.initialized Cmp3.yN.cls :: Cmp3.site))
  have q3 : ∀ w ∈ Cmp3.tab :: CodL.tab :: words, w.before a s = true := fun w hw => (List.mem_cons.mp hw).elim (fun e => e ▸ h3) fun hw => (List.mem_cons.mp hw).elim (fun e => e ▸ hc) (h w)
  have h4 : New4.tab.before a s = true := unparts (wk q3 (.code New4.yN New4.yB 6 none)) (wks q3 (.initialized New4.yN.cls :: New4.site))
  have q4 : ∀ w ∈ New4.tab :: words, w.before a s = true := fun w hw => (List.mem_cons.mp hw).elim (fun e => e ▸ h4) (h w)
  exact unparts (wk q4 (.code New1.yN New1.yB 2 none)) (wks q4 (.initialized New1.yN.cls :: New1.site))
/-- the words ride from the start Z to the walk's own state -/
theorem moved {Z s : State} {a0 args : Array Value} (hZ : Z.Warmed39 s.vm) (hw : ∀ d ∈ words, d.before a0 Z = true) : ∀ d ∈ words, d.before args s = true := fun d hd => by
  have q := hw d hd
  have t : ∀ d ∈ words, d = .arrayClass .byte ∨ (d.onTables && d.keepsFace) = true := by decide +kernel
  rcases t d hd with rfl | t
  · exact RoadKit.mvA hZ q
  · exact RoadKit.mv hZ q t
/-- WHAT COMES BACK, over the tables of the start Z: h the heap at the call, h' behind it -/
def Q (Z : State) (x : Addr) (A : Cell) (h : Heap) (v : Option Value) (h' : Heap) (L : List Loc) : Prop := v = none ∧ (∀ y ∈ L, y.base = x) ∧ RoadKit.Keep h h' [x] ∧ h'.size = h.size + 1 ∧ RoadKit.Exa Z h' x ST ∧ RoadKit.Fld Z h' x ST "value" "[B" (.ref h.size) ∧ RoadKit.Fld Z h' x ST "coder" "B" (.int 0) ∧
  (∃ V : Cell, RoadKit.Arr Z h' h.size V .byte ∧ V.vm = .none ∧ Z.vm.findClass "[B" = some V.cls ∧ V.slots.size = A.slots.size ∧ ∀ j, j < A.slots.size → V.slots[j]? = some (.int (lo8 (cv A j)))) ∧
  ∀ (O n d : String) (w : Value), RoadKit.Fld Z h x O n d w → RoadKit.slotOf Z O n d ≠ RoadKit.slotOf Z ST "value" "[B" → RoadKit.slotOf Z O n d ≠ RoadKit.slotOf Z ST "coder" "B" → RoadKit.Fld Z h' x O n d w
/-- **new String(chars) AT A CALL, IN THE ROAD'S FORM**: for specialBack behind newO: x the fresh String, b the char[] with the cell A -/
theorem back {p : Program} {l : Launch} {e : Env} {R : Room} {s : State} {args : Array Value} {below : List Frame} {len W : Nat} {Z : State} {a0 : Array Value} {h : Heap} (hZ : Z.Warmed39 s.vm) (hw : ∀ d ∈ words, d.before a0 Z = true) {kI : Nat} (wi : (Jvm.Cond.instantiable ST kI).before a0 Z = true)
    {x b : Addr} {A : Cell} {z : Int32} {v0 c0 : Value} (E : RoadKit.Exa Z h x ST) (V : RoadKit.Fld Z h x ST "value" "[B" v0) (C : RoadKit.Fld Z h x ST "coder" "B" c0) (K : RoadKit.Arr Z h b A .char) (hty : Typed .char A) (S : RoadKit.Sta Z h ST "COMPACT_STRINGS" "Z" (.int z)) (hz : ¬ z = 0)
    (l0 : 0 < A.slots.size) (l2 : A.slots.size ≤ 536870912) (hp : ∀ i, i < A.slots.size → ¬ 255 < cv A i) (hfr : 4 ≤ R.frames) (hlo : W + 65 ≤ R.locals) :
    Back l R p e below s args New1.yN len W (fun P a => a = #[.ref x, .ref b] ∧ P.U.heap = h ∧ P.cells + 1 ≤ R.cells ∧ P.slots + A.slots.size ≤ R.slots)
      (fun P _ v B => ∃ L, Q Z x A h v B.U.heap L ∧ B.locs = P.locs ++ L ∧ B.cells = P.cells + 1 ∧ B.slots = P.slots + A.slots.size) := by
  intro m meth c P g ig mk a X hg hsize hdg hW hn hp'
  obtain ⟨rfl, rfl, r1, r2⟩ := hp'
  have al : Z.vm.Alike P.U.vm := hZ.alike.trans X.warmed.alike
  obtain ⟨D, cfV, kV, iV, fV, hD, gV, stV, knV, obV, asV, slV⟩ := id V
  obtain ⟨D', cfC, kC, iC, fC, hD', gC, stC, -, -, asC, slC⟩ := id C
  cases hD.symm.trans hD'
  obtain ⟨D2, kD, e1, e2, e3, e4, e5⟩ := id E
  cases hD.symm.trans e1
  obtain ⟨c2, k2, i1, i2, i3, -⟩ := Cond.instantiable_spec wi
  cases e2.symm.trans i1
  cases e3.symm.trans i2
  obtain ⟨kU, u1, u2⟩ := al.2.2 _ _ e3
  have hB : Blank ST x D P.U := ⟨hD, ⟨knV, fun q hq => by rw [hq] at obV; cases obV⟩, by rw [al.findClass]; exact e2, kU, u1, by rw [u2]; exact i3, by rw [u2]; exact e5 i3⟩
  have F1 : Found ST "value" "[B" fV P.U := ⟨SBG.found_only al ⟨cfV, kV, iV, gV⟩, stV⟩
  have F2 : Found ST "coder" "B" fC P.U := ⟨SBG.found_only al ⟨cfC, kC, iC, gC⟩, stC⟩
  have hA : Ch b A P.U := ⟨⟨K.1, State.isArrayOf_alike al K.2.1, K.2.2, by omega⟩, hty⟩
  have hS : StaticIs P.U ST "COMPACT_STRINGS" "Z" (.int z) := by
    obtain ⟨cfS, iS, kS, fS, st, cS, t1, t2, t3, t4, t5, t6, t7⟩ := S
    exact StaticIs.there (s := { Z with heap := P.U.heap }) ⟨cfS, iS, kS, fS, st, cS, t1, t2, t3, t4, t5, (fun q => by rw [q] at t6; cases t6), t7⟩ al rfl
  obtain ⟨v, B, X', ⟨⟨hv, E', V', q1, q2, q3, q4, q5, q6, q7, q8, q9, q10, q11⟩, hl, hc, hs⟩, st⟩ := New1.pays x D fV fC b A z (tab_of (moved hZ hw)) hfr hlo m meth c P g ig mk _ X hg hsize hdg hW hn ⟨r1, r2, rfl, hB, F1, F2, hA, hS, hz, l0, l2, hp⟩
  have al' : Z.vm.Alike B.U.vm := hZ.alike.trans X'.warmed.alike
  have hsz : E'.slots.size = D.slots.size := by
    obtain ⟨-, -, -, kB, w1, w2, w3⟩ := q1
    obtain ⟨kB', y1, y2⟩ := al'.2.2 _ _ e3
    rw [q2.2.1] at w1
    cases w1.symm.trans y1
    rw [w3, e5 i3, y2]
  refine ⟨v, B, X', ⟨_, ⟨hv, ?_, ⟨by omega, fun y cy hy hn' => q10 y cy (by simpa using hn') hy, fun y cy hy => ?_⟩, q11, ⟨E', _, q1.1, by rw [q2.2.1]; exact e2, by rw [q2.2.1]; exact e3, by rw [q2.1]; exact obV, fun _ => by rw [hsz]; exact e5 i3⟩,
    ⟨E', cfV, kV, iV, fV, q1.1, gV, stV, by rw [q2.1]; exact knV, by rw [q2.1]; exact obV, by rw [q2.2.1]; exact asV, q3⟩, ⟨E', cfC, kC, iC, fC, q1.1, gC, stC, by rw [q2.1]; exact knV, by rw [q2.1]; exact obV, by rw [q2.2.1]; exact asC, q4⟩,
    ⟨V', ⟨q5.1, State.isArrayOf_alike al'.symm q5.2.1, q5.2.2.1⟩, q6, by rw [← al'.findClass]; exact q7, q8, fun j hj => by have := q9 j hj; rwa [Nat.zero_add] at this⟩, fun O n d w F n1 n2 => ?_⟩, hl, hc, hs⟩, st⟩
  · intro y hy
    simp only [List.mem_cons, List.not_mem_nil, or_false] at hy
    rcases hy with rfl | rfl <;> rfl
  · by_cases q : y = x
    · subst q
      cases hD.symm.trans hy
      exact ⟨E', q1.1, q2.2.1, q2.1, hsz⟩
    · exact ⟨cy, q10 y cy q hy, rfl, rfl, rfl⟩
  · obtain ⟨D3, cf, k, i, f, g1, g2, g3, g4, g5, g6, g7⟩ := F
    cases hD.symm.trans g1
    simp only [RoadKit.slotOf, g2, gV, gC, Option.map_some, Option.getD_some] at n1 n2
    exact ⟨E', cf, k, i, f, q1.1, g2, g3, by rw [q2.1]; exact g4, by rw [q2.1]; exact g5, by rw [q2.2.1]; exact g6, by rw [q2.2.2 f.slot (by simp [n1, n2])]; exact g7⟩
end StrChars.Road
namespace StrChars.Road
open Jvm Sem ClassFile Op Lib Jvm.Stand Jvm.Free Jvm.Free.XT
/-- WHAT COMES BACK, the byte[] as a list of values -/
def QA (Z : State) (x : Addr) (zn : Int32) (cs : List Int32) (h : Heap) (v : Option Value) (h' : Heap) (L : List Loc) : Prop := v = none ∧ (∀ y ∈ L, y.base = x) ∧ RoadKit.Keep h h' [x] ∧ h'.size = h.size + 1 ∧ RoadKit.Exa Z h' x ST ∧ RoadKit.Fld Z h' x ST "value" "[B" (.ref h.size) ∧ RoadKit.Fld Z h' x ST "coder" "B" (.int 0) ∧
  (∃ kb, Z.vm.findClass "[B" = some kb ∧ RoadKit.Arv Z h' h.size kb .byte zn (cs.map fun c => .int (lo8 c)) (.int 0)) ∧
  ∀ (O n d : String) (w : Value), RoadKit.Fld Z h x O n d w → RoadKit.slotOf Z O n d ≠ RoadKit.slotOf Z ST "value" "[B" → RoadKit.slotOf Z O n d ≠ RoadKit.slotOf Z ST "coder" "B" → RoadKit.Fld Z h' x O n d w
/-- **new String(chars) AT A CALL, THE ARRAYS AS LISTS**: the char[] at b holds cs, not empty, no char above 255 -/
theorem backArv {p : Program} {l : Launch} {e : Env} {R : Room} {s : State} {args : Array Value} {below : List Frame} {len W : Nat} {Z : State} {a0 : Array Value} {h : Heap} (hZ : Z.Warmed39 s.vm) (hw : ∀ d ∈ words, d.before a0 Z = true) {kI : Nat} (wi : (Jvm.Cond.instantiable ST kI).before a0 Z = true)
    {x b : Addr} {k : ClassId} {zn z : Int32} {cs : List Int32} {dv v0 c0 : Value} (E : RoadKit.Exa Z h x ST) (V : RoadKit.Fld Z h x ST "value" "[B" v0) (C : RoadKit.Fld Z h x ST "coder" "B" c0) (K : RoadKit.Arv Z h b k .char zn (cs.map Value.int) dv) (S : RoadKit.Sta Z h ST "COMPACT_STRINGS" "Z" (.int z)) (hz : ¬ z = 0)
    (hlen : zn.toNatClampNeg = cs.length) (h0 : 0 < cs.length) (hbig : cs.length ≤ 536870912) (hall : ∀ c ∈ cs, ¬ 255 < c) (hfr : 4 ≤ R.frames) (hlo : W + 65 ≤ R.locals) :
    Back l R p e below s args New1.yN len W (fun P a => a = #[.ref x, .ref b] ∧ P.U.heap = h ∧ P.cells + 1 ≤ R.cells ∧ P.slots + cs.length ≤ R.slots)
      (fun P _ v B => ∃ L, QA Z x zn cs h v B.U.heap L ∧ B.locs = P.locs ++ L ∧ B.cells = P.cells + 1 ∧ B.slots = P.slots + cs.length) := by
  obtain ⟨A, K1, K2, K3, K4, K5, K6⟩ := K
  have e : A.slots.size = cs.length := K3.trans hlen
  have hat : ∀ (i : Nat) (hi : i < cs.length), A.slots[i]? = some (.int cs[i]) := fun i hi => by rw [K5 i (by omega)]; simp [List.getD_eq_getElem?_getD, hi]
  have hcv : ∀ (i : Nat) (hi : i < cs.length), cv A i = cs[i] := fun i hi => by unfold cv; rw [hat i hi]
  have hty : Typed .char A := fun i v hv => by
    have hi : i < A.slots.size := (Array.getElem?_eq_some_iff.mp hv).1
    have q := K5 i hi
    rw [hv] at q
    rw [Option.some.inj q]
    exact K6 i hi
  refine Back.mono (back hZ hw wi E V C K1 hty S hz (by omega) (by omega) (fun i hi => by rw [hcv i (by omega)]; exact hall _ (List.getElem_mem _)) hfr hlo) (fun P a hp => ⟨hp.1, hp.2.1, hp.2.2.1, by rw [e]; exact hp.2.2.2⟩) (fun P a v B hp hq => ?_)
  obtain ⟨L, ⟨q1, q2, q3, q4, q5, q6, q7, ⟨V', v1, v2, v3, v4, v5⟩, q9⟩, hl, hc, hs⟩ := hq
  refine ⟨L, ⟨q1, q2, q3, q4, q5, q6, q7, ⟨V'.cls, v3, V', v1, rfl, by rw [v4, e, hlen], K4, fun i hi => ?_, fun i hi => ?_⟩, q9⟩, hl, hc, by rw [hs, e]⟩
  · have hi' : i < cs.length := by omega
    rw [v5 i (by omega), hcv i hi']; simp [List.getD_eq_getElem?_getD, hi']
  · have hi' : i < cs.length := by omega
    simp only [List.getD_eq_getElem?_getD, List.getElem?_map, List.getElem?_eq_getElem hi', Option.map_some, Option.getD_some]
    exact fits_lo8 _
end StrChars.Road
namespace StrChars.Road
open Jvm Sem ClassFile Op Lib Jvm.Stand Jvm.Free Jvm.Free.XT
/-- WHAT COMES BACK, in the writer's own shape -/
def QV (Z : State) (x : Addr) (N : Int32) (bs : List Int32) (h : Heap) (n0 : Nat) (v : Option Value) (h' : Heap) (L : List Loc) : Prop := v = none ∧ RoadKit.Fr n0 L ∧ RoadKit.Keep h h' [x] ∧ RoadKit.Exa Z h' x ST ∧ RoadKit.Fld Z h' x ST "coder" "B" (.int 0) ∧
  ∃ (t : Addr) (kb : ClassId), n0 ≤ t ∧ h.size ≤ t ∧ ¬ t = x ∧ RoadKit.Fld Z h' x ST "value" "[B" (.ref t) ∧ RoadKit.Arv Z h' t kb .byte N (bs.map Value.int) (.int 0)
/-- **new String(chars) AT A CALL, FOR THE WRITER**: a char[] of n known ints, each 0 to 255 -/
theorem backV {p : Program} {l : Launch} {e : Env} {R : Room} {s : State} {args : Array Value} {below : List Frame} {len W : Nat} {Z : State} {a0 : Array Value} {h : Heap} (hZ : Z.Warmed39 s.vm) (hw : ∀ d ∈ words, d.before a0 Z = true) {kI : Nat} (wi : (Jvm.Cond.instantiable ST kI).before a0 Z = true)
    {x b : Addr} {kC : ClassId} {cs bs : List Int32} {d v0 c0 : Value} {z N : Int32} {n n0 : Nat} (hx0 : n0 ≤ x) (hh0 : n0 ≤ h.size) (E : RoadKit.Exa Z h x ST) (V : RoadKit.Fld Z h x ST "value" "[B" v0) (C : RoadKit.Fld Z h x ST "coder" "B" c0) (K : RoadKit.Arv Z h b kC .char N (cs.map Value.int) d) (S : RoadKit.Sta Z h ST "COMPACT_STRINGS" "Z" (.int z)) (hz : ¬ z = 0)
    (hn : cs.length = n) (hN : N = Int32.ofNat n) (l0 : 0 < n) (l2 : n ≤ 4000) (hp : ∀ c ∈ cs, ¬ c < 0 ∧ ¬ (255 : Int32) < c) (hb : bs = cs.map (fun c => c.toInt8.toInt32)) (hfr : 4 ≤ R.frames) (hlo : W + 65 ≤ R.locals) :
    Back l R p e below s args (⟨"java/lang/String", "<init>", "([C)V"⟩ : MethodName) len W (fun P a => a = #[.ref x, .ref b] ∧ P.U.heap = h ∧ P.cells + 1 ≤ R.cells ∧ P.slots + n ≤ R.slots)
      (fun P _ v B => ∃ L, QV Z x N bs h n0 v B.U.heap L ∧ B.locs = P.locs ++ L ∧ B.cells = P.cells + 1 ∧ B.slots = P.slots + n) := by
  subst hn hN hb
  refine Back.mono (backArv hZ hw wi E V C K S hz (n32 (by omega)) l0 (by omega) (fun c hc => (hp c hc).2) hfr hlo) (fun P a hp => hp) (fun P a v B hp hq => ?_)
  obtain ⟨L, ⟨q1, q2, q3, q4, q5, q6, q7, ⟨kb, v1, v2⟩, q9⟩, hl, hc, hs⟩ := hq
  exact ⟨L, ⟨q1, fun y hy => by rw [q2 y hy]; exact hx0, q3, q5, q7, h.size, kb, hh0, Nat.le_refl _, Nat.ne_of_gt E.lt, q6, by rw [List.map_map]; exact v2⟩, hl, hc, hs⟩
end StrChars.Road
end Jvm.Pilot.@@N@@
namespace Jvm.Pilot.@@N@@
open Jvm Jvm.ClassFile Sem Op Lib Jvm.Free Jvm.Stand Jvm.LawKit Jvm.RoadKit Bundle Jvm.Pilot.@@N@@.Jvm.D
def Av (Z : State) (h : Heap) (a : Addr) (ty : FieldType) (n : Int32) (vs : List Value) (d : Value) : Prop := ∃ k, Arv Z h a k ty n vs d
theorem Av.lt {Z : State} {h : Heap} {a : Addr} {ty : FieldType} {n : Int32} {vs : List Value} {d : Value} (F : Av Z h a ty n vs d) : a < h.size := by obtain ⟨k, F⟩ := F; exact F.lt
theorem Av.ext {Z : State} {h h' : Heap} {a : Addr} {ty : FieldType} {n : Int32} {vs : List Value} {d : Value} (F : Av Z h a ty n vs d) (E : Ext h h') : Av Z h' a ty n vs d := by obtain ⟨k, F⟩ := F; exact ⟨k, F.ext E⟩
theorem Av.other {Z : State} {h h' : Heap} {a b : Addr} {ty : FieldType} {n : Int32} {vs : List Value} {d : Value} {sl : Nat} {v : Value} (F : Av Z h b ty n vs d) (W : Wr h h' a sl v) (q : b ≠ a) : Av Z h' b ty n vs d := by obtain ⟨k, F⟩ := F; exact ⟨k, F.other W q⟩
def Al (Z : State) (h : Heap) (a : Addr) (ty : FieldType) (n : Int32) : Prop := ∃ c : Cell, Arr Z h a c ty ∧ c.slots.size = n.toNatClampNeg ∧ ¬ n < 0
theorem Al.lt {Z : State} {h : Heap} {a : Addr} {ty : FieldType} {n : Int32} (F : Al Z h a ty n) : a < h.size := by obtain ⟨c, A, -⟩ := F; exact A.lt
theorem Al.ext {Z : State} {h h' : Heap} {a : Addr} {ty : FieldType} {n : Int32} (F : Al Z h a ty n) (E : Ext h h') : Al Z h' a ty n := by obtain ⟨c, A, r⟩ := F; exact ⟨c, A.ext E, r⟩
theorem Al.other {Z : State} {h h' : Heap} {a b : Addr} {ty : FieldType} {n : Int32} {sl : Nat} {v : Value} (F : Al Z h b ty n) (W : Wr h h' a sl v) (q : b ≠ a) : Al Z h' b ty n := by obtain ⟨c, A, r⟩ := F; exact ⟨c, A.other W q, r⟩
theorem Al.same {Z : State} {h h' : Heap} {a : Addr} {ty : FieldType} {n : Int32} {sl : Nat} {v : Value} (F : Al Z h a ty n) (W : Wr h h' a sl v) : Al Z h' a ty n := by obtain ⟨c, A, r⟩ := F; exact ⟨_, A.same W, by rw [sz_set]; exact r.1, r.2⟩
theorem Al.keep {Z : State} {h h' : Heap} {a : Addr} {ty : FieldType} {n : Int32} {ws : List Addr} (F : Al Z h a ty n) (K : Keep h h' ws) (q : a ∉ ws) : Al Z h' a ty n := by obtain ⟨c, A, r⟩ := F; exact ⟨c, ⟨K.2.1 a c A.1 q, A.2⟩, r⟩
theorem Av.al {Z : State} {h : Heap} {a : Addr} {ty : FieldType} {n : Int32} {vs : List Value} {d : Value} (F : Av Z h a ty n vs d) : Al Z h a ty n := by obtain ⟨k, c, A, -, r1, r2, -⟩ := F; exact ⟨c, A, r1, r2⟩
theorem Av.keep {Z : State} {h h' : Heap} {a : Addr} {ty : FieldType} {n : Int32} {vs : List Value} {d : Value} {ws : List Addr} (F : Av Z h a ty n vs d) (K : Keep h h' ws) (q : a ∉ ws) : Av Z h' a ty n vs d := by obtain ⟨k, F⟩ := F; exact ⟨k, F.keep K q⟩
abbrev MN1 : MethodName := ⟨"java/lang/String", "<init>", "([C)V"⟩
abbrev MN7 : MethodName := ⟨"com/example/topiq/topiq/protocol/TopicRoute$QueueData", "<init>", "(Ljava/lang/String;III)V"⟩
abbrev MN8 : MethodName := ⟨"com/example/topiq/topiq/protocol/TopicRoute$QueueData", "isReadable", "()Z"⟩
theorem own_nat (n k : Nat) : (n &&& 2 ^ k = 0) ↔ (n / 2 ^ k) % 2 = 0 := by
  constructor
  · intro h
    have : (n &&& 2 ^ k).testBit k = false := by rw [h]; simp
    rw [Nat.testBit_and, Nat.testBit_two_pow_self, Bool.and_true, Nat.testBit_eq_decide_div_mod_eq] at this
    have := of_decide_eq_false this
    omega
  · intro h
    apply Nat.eq_of_testBit_eq
    intro i
    rw [Nat.testBit_and, Nat.zero_testBit, Nat.testBit_two_pow]
    by_cases e : k = i
    · subst e
      rw [Nat.testBit_eq_decide_div_mod_eq]
      simp [h]
    · simp [e]
theorem own_pow32 (x : Int32) (m : Int32) (k : Nat) (hm : m.toBitVec.toNat = 2 ^ k) : (x &&& m = 0) ↔ (x.toBitVec.toNat / 2 ^ k) % 2 = 0 := by
  have e1 : (x &&& m).toBitVec.toNat = x.toBitVec.toNat &&& 2 ^ k := by
    show (x.toBitVec &&& m.toBitVec).toNat = _
    rw [BitVec.toNat_and, hm]
  have e2 : (x &&& m = 0) ↔ (x &&& m).toBitVec.toNat = 0 := by
    rw [← Int32.toBitVec_inj, ← BitVec.toNat_inj]; rfl
  rw [e2, e1, own_nat]
theorem own_tn32 (x : Int32) : (x.toBitVec.toNat : Int) = x.toInt % 4294967296 := by
  have h := BitVec.toInt_eq_toNat_bmod x.toBitVec
  show (x.toBitVec.toNat : Int) = x.toBitVec.toInt % 4294967296
  have h2 := x.toBitVec.isLt
  have h3 := bm32 (x.toBitVec.toNat : Int)
  rw [h]
  omega
theorem own_dist (a b c : Int32) : ((a ^^^ b) &&& c) = ((a &&& c) ^^^ (b &&& c)) := by
  apply Int32.toBitVec_inj.mp
  show (a.toBitVec ^^^ b.toBitVec) &&& c.toBitVec = (a.toBitVec &&& c.toBitVec) ^^^ (b.toBitVec &&& c.toBitVec)
  apply BitVec.eq_of_getLsbD_eq
  intro i hi
  simp only [BitVec.getLsbD_and, BitVec.getLsbD_xor]
  cases a.toBitVec.getLsbD i <;> cases b.toBitVec.getLsbD i <;> cases c.toBitVec.getLsbD i <;> rfl
theorem own_disto (a b c : Int32) : ((a ||| b) &&& c) = ((a &&& c) ||| (b &&& c)) := by
  apply Int32.toBitVec_inj.mp
  show (a.toBitVec ||| b.toBitVec) &&& c.toBitVec = (a.toBitVec &&& c.toBitVec) ||| (b.toBitVec &&& c.toBitVec)
  apply BitVec.eq_of_getLsbD_eq
  intro i hi
  simp only [BitVec.getLsbD_and, BitVec.getLsbD_or]
  cases a.toBitVec.getLsbD i <;> cases b.toBitVec.getLsbD i <;> cases c.toBitVec.getLsbD i <;> rfl
theorem own_chars (x : Int32) : ¬ nar .char ((x &&& (255 : Int32)).toUInt32.toUInt16.toUInt32.toInt32) < 0 ∧ ¬ (255 : Int32) < nar .char ((x &&& (255 : Int32)).toUInt32.toUInt16.toUInt32.toInt32) := by
  rw [i2c_mask]
  show ¬ ((x &&& (255 : Int32)).toUInt32.toUInt16.toUInt32.toInt32) < 0 ∧ ¬ (255 : Int32) < ((x &&& (255 : Int32)).toUInt32.toUInt16.toUInt32.toInt32)
  rw [i2c_mask]
  have e := c_mask x 255 8 (by decide) (by decide)
  rw [Int32.lt_iff_toInt_lt, Int32.lt_iff_toInt_lt]
  simp only [Int32.reduceToInt]
  omega
theorem own_or (p : Int32) : ((p ||| (4 : Int32)) &&& (4 : Int32)) = 4 := by
  apply Int32.toBitVec_inj.mp
  show (p.toBitVec ||| (4 : Int32).toBitVec) &&& (4 : Int32).toBitVec = (4 : Int32).toBitVec
  apply BitVec.eq_of_getLsbD_eq
  intro i hi
  simp only [BitVec.getLsbD_and, BitVec.getLsbD_or]
  cases p.toBitVec.getLsbD i <;> cases (4 : Int32).toBitVec.getLsbD i <;> rfl
theorem own_an (p : Int32) : ((p &&& (-5 : Int32)) &&& (4 : Int32)) = 0 := by
  rw [Int32.and_assoc, show ((-5 : Int32) &&& 4) = 0 from by decide, Int32.and_zero]
theorem own_w1 (p : Int32) : (((p.toUInt32 >>> ((2 : Int32) &&& 31).toUInt32).toInt32) &&& (1 : Int32)) = (1 : Int32) ↔ ¬ (p &&& (4 : Int32)) = 0 := by
  have e1 := c_iushr p 2 2 (by decide) (by decide)
  have e2 := c_mask ((p.toUInt32 >>> ((2 : Int32) &&& 31).toUInt32).toInt32) 1 1 (by decide) (by decide)
  have e3 := own_pow32 p 4 2 (by decide)
  have e4 := own_tn32 p
  rw [e3, ← Int32.toInt_inj, e2, e1]
  simp only [Int32.reduceToInt]
  omega
theorem own_nz {args : Array Value} {s : State} {t : Term} {x : Int32} (h : (Jvm.Cond.not (Jvm.Cond.eq t (.int 0))).value args s none s [] = some true) (e : t.eval args s none [] s = some (.int x)) : ¬ (x = (0 : Int32)) := by
  have q := not_v h
  simpa [Jvm.Cond.value, e, Term.eval] using q
theorem d7_0 : decode prog_50_method_1_code 0 = .ok (.aload_n 0, 1) := by decide +kernel
theorem d7_1 : decode prog_50_method_1_code 1 = .ok (.invokespecial 3, 3) := by decide +kernel
theorem d7_4 : decode prog_50_method_1_code 4 = .ok (.aload_n 0, 1) := by decide +kernel
theorem d7_5 : decode prog_50_method_1_code 5 = .ok (.aload_n 1, 1) := by decide +kernel
theorem d7_6 : decode prog_50_method_1_code 6 = .ok (.putfield 9, 3) := by decide +kernel
theorem d7_9 : decode prog_50_method_1_code 9 = .ok (.aload_n 0, 1) := by decide +kernel
theorem d7_10 : decode prog_50_method_1_code 10 = .ok (.iload_n 2, 1) := by decide +kernel
theorem d7_11 : decode prog_50_method_1_code 11 = .ok (.putfield 15, 3) := by decide +kernel
theorem d7_14 : decode prog_50_method_1_code 14 = .ok (.aload_n 0, 1) := by decide +kernel
theorem d7_15 : decode prog_50_method_1_code 15 = .ok (.iload_n 3, 1) := by decide +kernel
theorem d7_16 : decode prog_50_method_1_code 16 = .ok (.putfield 19, 3) := by decide +kernel
theorem d7_19 : decode prog_50_method_1_code 19 = .ok (.aload_n 0, 1) := by decide +kernel
theorem d7_20 : decode prog_50_method_1_code 20 = .ok (.iload 4, 2) := by decide +kernel
theorem d7_22 : decode prog_50_method_1_code 22 = .ok (.putfield 22, 3) := by decide +kernel
theorem d7_25 : decode prog_50_method_1_code 25 = .ok (.return_, 1) := by decide +kernel
theorem pn_com_example_topiq_topiq_protocol_TopicRoute_QueueData : plainName "com/example/topiq/topiq/protocol/TopicRoute$QueueData" = true := by first | (simp [plainName, overriddenIn]; done) | decide +kernel
theorem ef_rm7 (m : MethodId) (x0 : Addr) (x1 : Addr) (x2 : Int32) (x3 : Int32) (x4 : Int32) : entryFrame m #[(.ref x0), (.ref x1), (.int x2), (.int x3), (.int x4)] 5 = mkF m 0 #[rv x0, rv x1, iv x2, iv x3, iv x4] [] := by first | (simp [entryFrame, mkF, argsToLocals, Value.category]; done) | rfl
def Q_rm7 (Z : State) (a7_0 : Addr) (st : Addr) (rq : Int32) (wq : Int32) (pm : Int32) (h0 : Heap) (n0 : Nat) (v : Option Value) (h : Heap) (L : List Loc) : Prop := v = none ∧ Fr n0 L ∧ Keep h0 h [a7_0] ∧ (Fld Z h a7_0 "com/example/topiq/topiq/protocol/TopicRoute$QueueData" "perm" "I" (.int pm))
set_option maxRecDepth 65536 in
set_option maxHeartbeats 40000000 in
theorem rm7 (l : Launch) (Z : State) (a0 : Array Value) (hw : ∀ d ∈ tables_1, d.before a0 Z = true) (ws : List Jvm.Cond) (a7_0 : Addr) (st : Addr) (rq : Int32) (wq : Int32) (pm : Int32) (h0 : Heap) (n0 : Nat) (Z0 : n0 ≤ h0.size) (pf_E_a7_0 : Exa Z h0 a7_0 "com/example/topiq/topiq/protocol/TopicRoute$QueueData") (pf_G_a7_0 : n0 ≤ a7_0) (pf_F_a7_0_brokerName : Fld Z h0 a7_0 "com/example/topiq/topiq/protocol/TopicRoute$QueueData" "brokerName" "Ljava/lang/String;" .null) (pf_F_a7_0_readQueueNums : Fld Z h0 a7_0 "com/example/topiq/topiq/protocol/TopicRoute$QueueData" "readQueueNums" "I" (.int (0 : Int32))) (pf_F_a7_0_writeQueueNums : Fld Z h0 a7_0 "com/example/topiq/topiq/protocol/TopicRoute$QueueData" "writeQueueNums" "I" (.int (0 : Int32))) (pf_F_a7_0_perm : Fld Z h0 a7_0 "com/example/topiq/topiq/protocol/TopicRoute$QueueData" "perm" "I" (.int (0 : Int32))) :
    MetFree l (⟨"com/example/topiq/topiq/protocol/TopicRoute$QueueData", "<init>", "(Ljava/lang/String;III)V"⟩ : MethodName) (head1 (Jvm.Cond.code (⟨"com/example/topiq/topiq/protocol/TopicRoute$QueueData", "<init>", "(Ljava/lang/String;III)V"⟩ : MethodName) prog_50_method_1_code 5 none :: ws) ({ frames := 1, cells := 0, slots := 0, locals := 12 } : Room)) (fun a U => a = #[(.ref a7_0), (.ref st), (.int rq), (.int wq), (.int pm)] ∧ Z.Warmed39 U.vm ∧ U.heap = h0) (fun _ _ _ _ _ => True) (fun _ U o U' => ∃ v L, o = .returned v ∧ Q_rm7 Z a7_0 st rq wq pm h0 n0 v U'.heap L ∧ FrameEnd U o U' L ({ frames := 1, cells := 0, slots := 0, locals := 12 } : Room).cells ({ frames := 1, cells := 0, slots := 0, locals := 12 } : Room).slots) := by
  refine MetFree.of_bodySF (plainFor_of_name pn_com_example_topiq_topiq_protocol_TopicRoute_QueueData) hisR ?_
  intro p e s m args below meth c s₁ Bd hml0 hP hK
  obtain ⟨rfl, hZ, hh⟩ := hP
  have hx := Bd.exec
  have hby := Bd.bytes
  have hml : c.maxLocals = 5 := hml0
  have hown : s.vm.findClass "com/example/topiq/topiq/protocol/TopicRoute$QueueData" = some m.cls := findClass_of_methodNamed Bd.named
  have hnm := (name_of_methodNamed Bd.named Bd.method).1
  have X0 : Stand p l e ({ frames := 1, cells := 0, slots := 0, locals := 12 } : Room) s m #[(.ref a7_0), (.ref st), (.int rq), (.int wq), (.int pm)] below meth c s₁ [] 0 0 := Stand.of_body Bd
  have e0 : s₁.heap = h0 := by rw [← hh, Bd.state]; rfl
  have N0 := Fr.nil n0
  have pre0 : ∀ t, Steps p.tables e below (s₁.setTop (mkF m 0 #[rv a7_0, rv st, iv rq, iv wq, iv pm] [])) t → Steps p.tables e below (s₁.setTop (entryFrame m #[(.ref a7_0), (.ref st), (.int rq), (.int wq), (.int pm)] 5)) t := fun t k => castTop (ef_rm7 m a7_0 st rq wq pm) k
  have wo12 := hw _ (List.mem_of_getElem? (i := 12) rfl)
  have wo13 := hw _ (List.mem_of_getElem? (i := 13) rfl)
  have wo31 := hw _ (List.mem_of_getElem? (i := 31) rfl)
  have wo36 := hw _ (List.mem_of_getElem? (i := 36) rfl)
  have wo37 := hw _ (List.mem_of_getElem? (i := 37) rfl)
  have wo38 := hw _ (List.mem_of_getElem? (i := 38) rfl)
  have wo39 := hw _ (List.mem_of_getElem? (i := 39) rfl)
  have wo40 := hw _ (List.mem_of_getElem? (i := 40) rfl)
  have wo41 := hw _ (List.mem_of_getElem? (i := 41) rfl)
  have wo42 := hw _ (List.mem_of_getElem? (i := 42) rfl)
  have wo43 := hw _ (List.mem_of_getElem? (i := 43) rfl)
  have wo44 := hw _ (List.mem_of_getElem? (i := 44) rfl)
  obtain ⟨T1, X1, e1, st1⟩ := initO X0 hx hZ hown wo36 wo12 wo13 e0 (g := (mkF m 1 #[rv a7_0, rv st, iv rq, iv wq, iv pm] [(.ref a7_0)])) rfl (by rw [hml]; rfl) rfl (hb hby d7_1) (by decide) (W := 0) (by show 2 * 0 + _ ≤ _; exact Nat.le_of_eq rfl) (by decide)
  obtain ⟨T2, h2, X2, e2, W2, st2⟩ := putF X1 hx hZ hown (host := "") (Or.inl wo37) Via.refl e1 pf_F_a7_0_brokerName pf_E_a7_0 (Or.inr ⟨wo38, rfl, hnm⟩) wo31 (ty := (.object "java/lang/String")) (by decide) rfl rfl (g := (mkF m 6 #[rv a7_0, rv st, iv rq, iv wq, iv pm] [(.ref st), (.ref a7_0)])) rfl rfl (hb hby d7_6)
  have K3 : Keep h0 h2 [a7_0] := (Keep.refl h0 [a7_0]).wr W2 (Or.inl (List.mem_of_getElem? (i := 0) rfl))
  have f4 : Fld Z h2 a7_0 "com/example/topiq/topiq/protocol/TopicRoute$QueueData" "brokerName" "Ljava/lang/String;" (.ref st) := pf_F_a7_0_brokerName.same W2
  have N5 := Fr.snoc X2 N0 pf_G_a7_0
  have f6 := (pf_F_a7_0_readQueueNums.other W2 (Or.inr (slot_ne (Or.inr wo40) (Or.inr wo38) (by decide) (t := .int) (t' := (.object "java/lang/String")) (by decide) (by decide))))
  have f7 := (pf_E_a7_0.wr W2)
  obtain ⟨T8, h8, X8, e8, W8, st8⟩ := putF X2 hx hZ hown (host := "") (Or.inl wo39) Via.refl e2 f6 f7 (Or.inr ⟨wo40, rfl, hnm⟩) wo31 (ty := .int) (by decide) rfl rfl (g := (mkF m 11 #[rv a7_0, rv st, iv rq, iv wq, iv pm] [(.int rq), (.ref a7_0)])) rfl rfl (hb hby d7_11)
  have K9 : Keep h0 h8 [a7_0] := (K3).wr W8 (Or.inl (List.mem_of_getElem? (i := 0) rfl))
  have f10 : Fld Z h8 a7_0 "com/example/topiq/topiq/protocol/TopicRoute$QueueData" "readQueueNums" "I" (.int rq) := f6.same W8
  have N11 := Fr.snoc X8 N5 pf_G_a7_0
  have f12 := ((pf_F_a7_0_writeQueueNums.other W2 (Or.inr (slot_ne (Or.inr wo42) (Or.inr wo38) (by decide) (t := .int) (t' := (.object "java/lang/String")) (by decide) (by decide)))).other W8 (Or.inr (slot_ne (Or.inr wo42) (Or.inr wo40) (by decide) (t := .int) (t' := .int) (by decide) (by decide))))
  have f13 := (f7.wr W8)
  obtain ⟨T14, h14, X14, e14, W14, st14⟩ := putF X8 hx hZ hown (host := "") (Or.inl wo41) Via.refl e8 f12 f13 (Or.inr ⟨wo42, rfl, hnm⟩) wo31 (ty := .int) (by decide) rfl rfl (g := (mkF m 16 #[rv a7_0, rv st, iv rq, iv wq, iv pm] [(.int wq), (.ref a7_0)])) rfl rfl (hb hby d7_16)
  have K15 : Keep h0 h14 [a7_0] := (K9).wr W14 (Or.inl (List.mem_of_getElem? (i := 0) rfl))
  have f16 : Fld Z h14 a7_0 "com/example/topiq/topiq/protocol/TopicRoute$QueueData" "writeQueueNums" "I" (.int wq) := f12.same W14
  have N17 := Fr.snoc X14 N11 pf_G_a7_0
  have f18 := (((pf_F_a7_0_perm.other W2 (Or.inr (slot_ne (Or.inr wo44) (Or.inr wo38) (by decide) (t := .int) (t' := (.object "java/lang/String")) (by decide) (by decide)))).other W8 (Or.inr (slot_ne (Or.inr wo44) (Or.inr wo40) (by decide) (t := .int) (t' := .int) (by decide) (by decide)))).other W14 (Or.inr (slot_ne (Or.inr wo44) (Or.inr wo42) (by decide) (t := .int) (t' := .int) (by decide) (by decide))))
  have f19 := (f13.wr W14)
  obtain ⟨T20, h20, X20, e20, W20, st20⟩ := putF X14 hx hZ hown (host := "") (Or.inl wo43) Via.refl e14 f18 f19 (Or.inr ⟨wo44, rfl, hnm⟩) wo31 (ty := .int) (by decide) rfl rfl (g := (mkF m 22 #[rv a7_0, rv st, iv rq, iv wq, iv pm] [(.int pm), (.ref a7_0)])) rfl rfl (hb hby d7_22)
  have K21 : Keep h0 h20 [a7_0] := (K15).wr W20 (Or.inl (List.mem_of_getElem? (i := 0) rfl))
  have f22 : Fld Z h20 a7_0 "com/example/topiq/topiq/protocol/TopicRoute$QueueData" "perm" "I" (.int pm) := f18.same W20
  have N23 := Fr.snoc X20 N17 pf_G_a7_0
  obtain ⟨fs, hr, hrun, hended, hW, hsame⟩ := X20.leave (v := none) (fun _ => rfl)
  refine ⟨_, _, pre0 _ ?_, hrun, hended, _, _, rfl, ?_, ⟨_, rfl⟩, hW, hsame.mono (by decide) (by decide)⟩
  · show Steps p.tables e below (s₁.setTop (mkF m 0 #[rv a7_0, rv st, iv rq, iv wq, iv pm] [])) _
    refine XS.aloadN X0.here hx rfl (hb hby d7_0) rfl rfl ?_
    show Steps p.tables e below (s₁.setTop (mkF m 1 #[rv a7_0, rv st, iv rq, iv wq, iv pm] [(.ref a7_0)])) _
    refine st1 _ ?_
    show Steps p.tables e below (T1.setTop (mkF m 4 #[rv a7_0, rv st, iv rq, iv wq, iv pm] [])) _
    refine XS.aloadN X1.here hx rfl (hb hby d7_4) rfl rfl ?_
    show Steps p.tables e below (T1.setTop (mkF m 5 #[rv a7_0, rv st, iv rq, iv wq, iv pm] [(.ref a7_0)])) _
    refine XS.aloadN X1.here hx rfl (hb hby d7_5) rfl rfl ?_
    show Steps p.tables e below (T1.setTop (mkF m 6 #[rv a7_0, rv st, iv rq, iv wq, iv pm] [(.ref st), (.ref a7_0)])) _
    refine st2 _ ?_
    show Steps p.tables e below (T2.setTop (mkF m 9 #[rv a7_0, rv st, iv rq, iv wq, iv pm] [])) _
    refine XS.aloadN X2.here hx rfl (hb hby d7_9) rfl rfl ?_
    show Steps p.tables e below (T2.setTop (mkF m 10 #[rv a7_0, rv st, iv rq, iv wq, iv pm] [(.ref a7_0)])) _
    refine XS.iloadN X2.here hx rfl (hb hby d7_10) rfl ?_
    show Steps p.tables e below (T2.setTop (mkF m 11 #[rv a7_0, rv st, iv rq, iv wq, iv pm] [(.int rq), (.ref a7_0)])) _
    refine st8 _ ?_
    show Steps p.tables e below (T8.setTop (mkF m 14 #[rv a7_0, rv st, iv rq, iv wq, iv pm] [])) _
    refine XS.aloadN X8.here hx rfl (hb hby d7_14) rfl rfl ?_
    show Steps p.tables e below (T8.setTop (mkF m 15 #[rv a7_0, rv st, iv rq, iv wq, iv pm] [(.ref a7_0)])) _
    refine XS.iloadN X8.here hx rfl (hb hby d7_15) rfl ?_
    show Steps p.tables e below (T8.setTop (mkF m 16 #[rv a7_0, rv st, iv rq, iv wq, iv pm] [(.int wq), (.ref a7_0)])) _
    refine st14 _ ?_
    show Steps p.tables e below (T14.setTop (mkF m 19 #[rv a7_0, rv st, iv rq, iv wq, iv pm] [])) _
    refine XS.aloadN X14.here hx rfl (hb hby d7_19) rfl rfl ?_
    show Steps p.tables e below (T14.setTop (mkF m 20 #[rv a7_0, rv st, iv rq, iv wq, iv pm] [(.ref a7_0)])) _
    refine XS.iload X14.here hx rfl (hb hby d7_20) rfl ?_
    show Steps p.tables e below (T14.setTop (mkF m 22 #[rv a7_0, rv st, iv rq, iv wq, iv pm] [(.int pm), (.ref a7_0)])) _
    refine st20 _ ?_
    show Steps p.tables e below (T20.setTop (mkF m 25 #[rv a7_0, rv st, iv rq, iv wq, iv pm] [])) _
    exact X20.returnOut hx Bd.returns (hb hby d7_25) hr
  · show Q_rm7 Z _ _ _ _ _ h0 n0 _ T20.heap _
    rw [e20]
    exact ⟨rfl, N23, (K21), f22⟩
theorem d8_0 : decode prog_50_method_9_code 0 = .ok (.aload_n 0, 1) := by decide +kernel
theorem d8_1 : decode prog_50_method_9_code 1 = .ok (.getfield 22, 3) := by decide +kernel
theorem d8_4 : decode prog_50_method_9_code 4 = .ok (.iconst 4, 1) := by decide +kernel
theorem d8_5 : decode prog_50_method_9_code 5 = .ok (.iand, 1) := by decide +kernel
theorem d8_6 : decode prog_50_method_9_code 6 = .ok (.ifCond .eq 7, 3) := by decide +kernel
theorem d8_13 : decode prog_50_method_9_code 13 = .ok (.iconst 0, 1) := by decide +kernel
theorem d8_14 : decode prog_50_method_9_code 14 = .ok (.ireturn, 1) := by decide +kernel
theorem d8_9 : decode prog_50_method_9_code 9 = .ok (.iconst 1, 1) := by decide +kernel
theorem d8_10 : decode prog_50_method_9_code 10 = .ok (.goto 4, 3) := by decide +kernel
theorem ef_rm8 (m : MethodId) (x0 : Addr) : entryFrame m #[(.ref x0)] 1 = mkF m 0 #[rv x0] [] := by first | (simp [entryFrame, mkF, argsToLocals, Value.category]; done) | rfl
def Q_rm8 (Z : State) (a8_0 : Addr) (pm : Int32) (h0 : Heap) (n0 : Nat) (v : Option Value) (h : Heap) (L : List Loc) : Prop := v = some (.int (if (pm &&& (4 : Int32)) = (0 : Int32) then (0 : Int32) else (1 : Int32))) ∧ Fr n0 L ∧ h = h0
set_option maxRecDepth 65536 in
set_option maxHeartbeats 40000000 in
theorem rm8 (l : Launch) (Z : State) (a0 : Array Value) (hw : ∀ d ∈ tables_1, d.before a0 Z = true) (ws : List Jvm.Cond) (a8_0 : Addr) (pm : Int32) (h0 : Heap) (n0 : Nat) (Z0 : n0 ≤ h0.size) (pf_F_a8_0_perm : Fld Z h0 a8_0 "com/example/topiq/topiq/protocol/TopicRoute$QueueData" "perm" "I" (.int pm)) :
    MetFree l (⟨"com/example/topiq/topiq/protocol/TopicRoute$QueueData", "isReadable", "()Z"⟩ : MethodName) (head1 (Jvm.Cond.code (⟨"com/example/topiq/topiq/protocol/TopicRoute$QueueData", "isReadable", "()Z"⟩ : MethodName) prog_50_method_9_code 1 (some .boolean) :: ws) ({ frames := 0, cells := 0, slots := 0, locals := 0 } : Room)) (fun a U => a = #[(.ref a8_0)] ∧ Z.Warmed39 U.vm ∧ U.heap = h0) (fun _ _ _ _ _ => True) (fun _ U o U' => ∃ v L, o = .returned v ∧ Q_rm8 Z a8_0 pm h0 n0 v U'.heap L ∧ FrameEnd U o U' L ({ frames := 0, cells := 0, slots := 0, locals := 0 } : Room).cells ({ frames := 0, cells := 0, slots := 0, locals := 0 } : Room).slots) := by
  refine MetFree.of_bodySF (plainFor_of_name pn_com_example_topiq_topiq_protocol_TopicRoute_QueueData) hisR ?_
  intro p e s m args below meth c s₁ Bd hml0 hP hK
  obtain ⟨rfl, hZ, hh⟩ := hP
  have hx := Bd.exec
  have hby := Bd.bytes
  have hml : c.maxLocals = 1 := hml0
  have hown : s.vm.findClass "com/example/topiq/topiq/protocol/TopicRoute$QueueData" = some m.cls := findClass_of_methodNamed Bd.named
  have hnm := (name_of_methodNamed Bd.named Bd.method).1
  have X0 : Stand p l e ({ frames := 0, cells := 0, slots := 0, locals := 0 } : Room) s m #[(.ref a8_0)] below meth c s₁ [] 0 0 := Stand.of_body Bd
  have e0 : s₁.heap = h0 := by rw [← hh, Bd.state]; rfl
  have N0 := Fr.nil n0
  have pre0 : ∀ t, Steps p.tables e below (s₁.setTop (mkF m 0 #[rv a8_0] [])) t → Steps p.tables e below (s₁.setTop (entryFrame m #[(.ref a8_0)] 1)) t := fun t k => castTop (ef_rm8 m a8_0) k
  have wo43 := hw _ (List.mem_of_getElem? (i := 43) rfl)
  obtain ⟨T1, X1, e1, st1⟩ := getF X0 hx hZ hown (host := "") (Or.inl wo43) Via.refl e0 pf_F_a8_0_perm (g := (mkF m 1 #[rv a8_0] [(.ref a8_0)])) rfl rfl (hb hby d8_1)
  have pre3 : ∀ t, Steps p.tables e below (T1.setTop (mkF m 6 #[rv a8_0] [(.int (pm &&& (4 : Int32)))])) t → Steps p.tables e below (s₁.setTop (entryFrame m #[(.ref a8_0)] 1)) t := by
    intro t k
    refine pre0 _ ?_
    show Steps p.tables e below (s₁.setTop (mkF m 0 #[rv a8_0] [])) _
    refine XS.aloadN X0.here hx rfl (hb hby d8_0) rfl rfl ?_
    show Steps p.tables e below (s₁.setTop (mkF m 1 #[rv a8_0] [(.ref a8_0)])) _
    refine st1 _ ?_
    show Steps p.tables e below (T1.setTop (mkF m 4 #[rv a8_0] [(.int pm)])) _
    refine XS.iconst X1.here hx rfl (hb hby d8_4) ?_
    show Steps p.tables e below (T1.setTop (mkF m 5 #[rv a8_0] [(.int (4 : Int32)), (.int pm)])) _
    refine XS.iand X1.here hx rfl (hb hby d8_5) rfl ?_
    exact k
  by_cases hc6_2 : (pm &&& (4 : Int32)) = (0 : Int32)
  · skip
    obtain ⟨fs, hr, hrun, hended, hW, hsame⟩ := X1.leave (v := some (.int (0 : Int32))) (fun h => by rw [Bd.returns] at h; cases h)
    refine ⟨_, _, pre3 _ ?_, hrun, hended, _, _, rfl, ?_, ⟨_, rfl⟩, hW, hsame.mono (by decide) (by decide)⟩
    · show Steps p.tables e below (T1.setTop (mkF m 6 #[rv a8_0] [(.int (pm &&& (4 : Int32)))])) _
      refine XS.ifYes X1.here hx rfl (pc0 := 6) (pc' := 13) rfl (hb hby d8_6) rfl ((if0 _ _).trans (teq hc6_2).1) (by decide) (by decide) ?_
      show Steps p.tables e below (T1.setTop (mkF m 13 #[rv a8_0] [])) _
      refine XS.iconst X1.here hx rfl (hb hby d8_13) ?_
      show Steps p.tables e below (T1.setTop (mkF m 14 #[rv a8_0] [(.int (0 : Int32))])) _
      exact retN X1 hx (t := .boolean) Bd.returns (by simp) (hb hby d8_14) hr
    · show Q_rm8 Z _ _ h0 n0 _ T1.heap _
      rw [e1]
      exact ⟨(by first | rfl | (simp [*]; done) | (simp_all; done)), N0, rfl⟩
  · skip
    obtain ⟨fs, hr, hrun, hended, hW, hsame⟩ := X1.leave (v := some (.int (1 : Int32))) (fun h => by rw [Bd.returns] at h; cases h)
    refine ⟨_, _, pre3 _ ?_, hrun, hended, _, _, rfl, ?_, ⟨_, rfl⟩, hW, hsame.mono (by decide) (by decide)⟩
    · show Steps p.tables e below (T1.setTop (mkF m 6 #[rv a8_0] [(.int (pm &&& (4 : Int32)))])) _
      refine XS.ifNo X1.here hx rfl (hb hby d8_6) rfl ((if0 _ _).trans (feq hc6_2).1) ?_
      show Steps p.tables e below (T1.setTop (mkF m 9 #[rv a8_0] [])) _
      refine XS.iconst X1.here hx rfl (hb hby d8_9) ?_
      show Steps p.tables e below (T1.setTop (mkF m 10 #[rv a8_0] [(.int (1 : Int32))])) _
      refine XS.goto X1.here hx rfl (pc0 := 10) (pc' := 14) rfl (hb hby d8_10) (by decide) (by decide) ?_
      show Steps p.tables e below (T1.setTop (mkF m 14 #[rv a8_0] [(.int (1 : Int32))])) _
      exact retN X1 hx (t := .boolean) Bd.returns (by simp) (hb hby d8_14) hr
    · show Q_rm8 Z _ _ h0 n0 _ T1.heap _
      rw [e1]
      exact ⟨(by first | rfl | (simp [*]; done) | (simp_all; done)), N0, rfl⟩
theorem pd_4 : parseMethodDescriptor "([C)V" = some ⟨[(.array .char)], none⟩ := by decide +kernel
theorem pd_2 : parseMethodDescriptor "(Ljava/lang/String;III)V" = some ⟨[(.object "java/lang/String"), .int, .int, .int], none⟩ := by decide +kernel
theorem pd_1 : parseMethodDescriptor "()Z" = some ⟨[], some .boolean⟩ := by decide +kernel
theorem pn_com_example_topiq_topiq_protocol_QueueDataIsReadablePinLaw : plainName "com/example/topiq/topiq/protocol/QueueDataIsReadablePinLaw" = true := by first | (simp [plainName, overriddenIn]; done) | decide +kernel
theorem ef_rm0 (m : MethodId) (x0 : Int32) (x1 : Int32) (x2 : Int32) (x3 : Int32) : entryFrame m #[(.int x0), (.int x1), (.int x2), (.int x3)] maxLocals = mkF m 0 #[iv x0, iv x1, iv x2, iv x3, .unset, .unset, .unset, .unset, .unset] [] := by first | (simp [entryFrame, mkF, argsToLocals, Value.category, maxLocals]; done) | rfl
def Q_rm0 (Z : State) (p0_0 : Int32) (p0_1 : Int32) (p0_2 : Int32) (p0_3 : Int32) (cs : Int32) (h0 : Heap) (n0 : Nat) (v : Option Value) (h : Heap) (L : List Loc) : Prop := v = some (.int (1 : Int32)) ∧ Fr n0 L ∧ Keep h0 h []
set_option maxRecDepth 65536 in
set_option maxHeartbeats 40000000 in
theorem rm0 (l : Launch) (Z : State) (a0 : Array Value) (hw : ∀ d ∈ tables_1, d.before a0 Z = true) (ws : List Jvm.Cond) (p0_0 : Int32) (p0_1 : Int32) (p0_2 : Int32) (p0_3 : Int32) (cs : Int32) (h0 : Heap) (n0 : Nat) (Z0 : n0 ≤ h0.size) (pf_O : Old Z n0 h0) (pf_S_java_lang_String_COMPACT_STRINGS : Sta Z Z.heap "java/lang/String" "COMPACT_STRINGS" "Z" (.int cs)) (hcs : ¬ (cs = (0 : Int32))) :
    MetFree l x (head1 (Jvm.Cond.code x code maxLocals ret :: ws) room_1) (fun a U => a = #[(.int p0_0), (.int p0_1), (.int p0_2), (.int p0_3)] ∧ Z.Warmed39 U.vm ∧ U.heap = h0) (fun _ _ _ _ _ => True) (fun _ U o U' => ∃ v L, o = .returned v ∧ Q_rm0 Z p0_0 p0_1 p0_2 p0_3 cs h0 n0 v U'.heap L ∧ FrameEnd U o U' L room_1.cells room_1.slots) := by
  refine MetFree.of_bodySF (plainFor_of_name pn_com_example_topiq_topiq_protocol_QueueDataIsReadablePinLaw) hisR ?_
  intro p e s m args below meth c s₁ Bd hml0 hP hK
  obtain ⟨rfl, hZ, hh⟩ := hP
  have hx := Bd.exec
  have hby := Bd.bytes
  have hml : c.maxLocals = 9 := hml0
  have hown : s.vm.findClass "com/example/topiq/topiq/protocol/QueueDataIsReadablePinLaw" = some m.cls := findClass_of_methodNamed Bd.named
  have hnm := (name_of_methodNamed Bd.named Bd.method).1
  have X0 : Stand p l e room_1 s m #[(.int p0_0), (.int p0_1), (.int p0_2), (.int p0_3)] below meth c s₁ [] 0 0 := Stand.of_body Bd
  have e0 : s₁.heap = h0 := by rw [← hh, Bd.state]; rfl
  have N0 := Fr.nil n0
  have pre0 : ∀ t, Steps p.tables e below (s₁.setTop (mkF m 0 #[iv p0_0, iv p0_1, iv p0_2, iv p0_3, .unset, .unset, .unset, .unset, .unset] [])) t → Steps p.tables e below (s₁.setTop (entryFrame m #[(.int p0_0), (.int p0_1), (.int p0_2), (.int p0_3)] maxLocals)) t := fun t k => castTop (ef_rm0 m p0_0 p0_1 p0_2 p0_3) k
  have wo0 := hw _ (List.mem_of_getElem? (i := 0) rfl)
  have wo1 := hw _ (List.mem_of_getElem? (i := 1) rfl)
  have wo2 := hw _ (List.mem_of_getElem? (i := 2) rfl)
  have wo3 := hw _ (List.mem_of_getElem? (i := 3) rfl)
  have wo4 := hw _ (List.mem_of_getElem? (i := 4) rfl)
  have wo5 := hw _ (List.mem_of_getElem? (i := 5) rfl)
  have wo6 := hw _ (List.mem_of_getElem? (i := 6) rfl)
  have wo27 := hw _ (List.mem_of_getElem? (i := 27) rfl)
  have wo29 := hw _ (List.mem_of_getElem? (i := 29) rfl)
  have wo30 := hw _ (List.mem_of_getElem? (i := 30) rfl)
  have wo31 := hw _ (List.mem_of_getElem? (i := 31) rfl)
  have wo32 := hw _ (List.mem_of_getElem? (i := 32) rfl)
  have wo33 := hw _ (List.mem_of_getElem? (i := 33) rfl)
  have wo34 := hw _ (List.mem_of_getElem? (i := 34) rfl)
  have wo35 := hw _ (List.mem_of_getElem? (i := 35) rfl)
  have wo38 := hw _ (List.mem_of_getElem? (i := 38) rfl)
  have wo40 := hw _ (List.mem_of_getElem? (i := 40) rfl)
  have wo42 := hw _ (List.mem_of_getElem? (i := 42) rfl)
  have wo44 := hw _ (List.mem_of_getElem? (i := 44) rfl)
  have wo45 := hw _ (List.mem_of_getElem? (i := 45) rfl)
  have wo46 := hw _ (List.mem_of_getElem? (i := 46) rfl)
  have wo47 := hw _ (List.mem_of_getElem? (i := 47) rfl)
  have wo48 := hw _ (List.mem_of_getElem? (i := 48) rfl)
  have wo49 := hw _ (List.mem_of_getElem? (i := 49) rfl)
  obtain ⟨T1, h1, X1, e1, E1, A1, D1, -, st1⟩ := newO X0 hx hZ hown wo0 wo1 wo2 e0 (g := (mkF m 0 #[iv p0_0, iv p0_1, iv p0_2, iv p0_3, .unset, .unset, .unset, .unset, .unset] [])) rfl (hb hby at_0) (by decide) (by decide)
  obtain ⟨b1, gg1⟩ : ∃ z, z = h0.size := ⟨_, rfl⟩
  rw [← gg1] at A1 D1 st1
  have g2 : n0 ≤ b1 := Nat.le_trans Z0 (Nat.le_of_eq gg1.symm)
  have bz3 : h0.size ≤ b1 := Nat.le_trans (Keep.refl h0 []).1 (Nat.le_of_eq gg1.symm)
  have K4 : Keep h0 h1 [] := (Keep.refl h0 []).ext E1
  have f5 : Fld Z h1 b1 "java/lang/String" "coder" "B" (.int (0 : Int32)) := D1 (Or.inr wo27) (ty := .byte) (by decide)
  have f6 : Fld Z h1 b1 "java/lang/String" "value" "[B" .null := D1 (Or.inr wo29) (ty := (.array .byte)) (by decide)
  obtain ⟨T7, h7, k7, X7, e7, E7, A7, st7⟩ := newP (aty := .char) X1 hx hZ wo3 e1 (g := (mkF m 5 #[iv p0_0, iv p0_1, iv p0_2, iv p0_3, .unset, .unset, .unset, .unset, .unset] [(.int (1 : Int32)), (.ref b1), (.ref b1)])) rfl (hb hby at_5) rfl (by decide) (cap := 1) (by decide) (by decide) (by decide) (by decide)
  obtain ⟨b7, gg7⟩ : ∃ z, z = h1.size := ⟨_, rfl⟩
  rw [← gg7] at A7 st7
  have ne8 : b1 ≠ b7 := Nat.ne_of_lt (Nat.lt_of_lt_of_le A1.lt (Nat.le_of_eq gg7.symm))
  have f10 := (Nat.le_trans Z0 E1.1)
  have g9 : n0 ≤ b7 := Nat.le_trans f10 (Nat.le_of_eq gg7.symm)
  have bz11 : h0.size ≤ b7 := Nat.le_trans (K4).1 (Nat.le_of_eq gg7.symm)
  have K13 : Keep h0 h7 [] := (K4).ext E7
  have f12 : Av Z h7 b7 .char (1 : Int32) [(.int (0 : Int32))] (.int (0 : Int32)) := ⟨_, (Arv.new A7 (by decide)).pad (pad_rep [] (.int (0 : Int32)) 1)⟩
  obtain ⟨kk14, cl14, Ar14, qq14, Sz14, Nn14, Hs14, Gf14⟩ := id f12
  have hin15 : ¬ ((0 : Int32) < 0 ∨ cl14.slots.size ≤ ((0 : Int32)).toNatClampNeg) := inb_of Sz14 ⟨by decide, by decide⟩
  obtain ⟨T16, h16, X16, e16, W16, st16⟩ := stC X7 hx hZ e7 Ar14 (j := (0 : Int32)) hin15 (g := (mkF m 15 #[iv p0_0, iv p0_1, iv p0_2, iv p0_3, .unset, .unset, .unset, .unset, .unset] [(.int ((p0_3 &&& (255 : Int32)).toUInt32.toUInt16.toUInt32.toInt32)), (.int (0 : Int32)), (.ref b7), (.ref b7), (.ref b1), (.ref b1)])) rfl rfl (hb hby at_15)
  have K17 : Keep h0 h16 [] := (K13).wr W16 (Or.inr bz11)
  have f18 : Av Z h16 b7 .char (1 : Int32) [(.int (nar .char ((p0_3 &&& (255 : Int32)).toUInt32.toUInt16.toUInt32.toInt32)))] (.int (0 : Int32)) := ⟨_, Arv.set Ar14 qq14 Sz14 Nn14 Hs14 Gf14 (by first | rfl | exact fits_nar_char _) W16 0 rfl (Nat.le_of_ble_eq_true rfl)⟩
  have N19 := Fr.snoc X16 N0 g9
  obtain ⟨kc20, Vc20⟩ := id f18
  have hws20 : ∀ d ∈ StrChars.Road.words, d.before a0 Z = true := fun d hd => hw d ((by decide +kernel : ∀ d ∈ StrChars.Road.words, d ∈ tables_1) d hd)
  have hp20 : ∀ c ∈ ([(nar .char ((p0_3 &&& (255 : Int32)).toUInt32.toUInt16.toUInt32.toInt32))] : List Int32), ¬ c < 0 ∧ ¬ (255 : Int32) < c := by
    intro c hc
    simp only [List.mem_cons, List.not_mem_nil, or_false] at hc
    subst hc
    exact own_chars p0_3
  have f21 := (((pf_O.ext E1).ext E7).wr W16 g9)
  have f22 := (Nat.le_trans (Nat.le_trans f10 E7.1) (Keep.of_wr W16).1)
  have f23 := ((A1.ext E7).wr W16)
  have f24 := ((f6.ext E7).other W16 (Or.inl ne8))
  have f25 := ((f5.ext E7).other W16 (Or.inl ne8))
  obtain ⟨_, _, ⟨T20, L20, k20, n20⟩, -, X20, ⟨Lc20, hQ20, l20, y20, z20⟩, st20⟩ := X16.specialBack hx (y := MN1) rfl hown (mvT hZ wo4) (mvT hZ wo5) (mvT hZ wo6) (by decide) (StrChars.Road.backV (W := 1) hZ hws20 (kI := 4) wo1 (cs := ([(nar .char ((p0_3 &&& (255 : Int32)).toUInt32.toUInt16.toUInt32.toInt32))] : List Int32)) (bs := (([(nar .char ((p0_3 &&& (255 : Int32)).toUInt32.toUInt16.toUInt32.toInt32))] : List Int32)).map (fun c => c.toInt8.toInt32)) (n := 1) g2 f22 f23 f24 f25 Vc20 (pf_S_java_lang_String_COMPACT_STRINGS.ext f21.2) hcs rfl rfl (by decide) (by decide) hp20 rfl (by decide) (by decide)) (g := (mkF m 16 #[iv p0_0, iv p0_1, iv p0_2, iv p0_3, .unset, .unset, .unset, .unset, .unset] [(.ref b7), (.ref b1), (.ref b1)])) rfl (by rw [hml]; rfl) (Steps.refl _) (a := b1) (argsL := [(.ref b7)]) (rest := [(.ref b1)]) (lenOf pd_4 rfl) rfl (by show 2 * 0 + _ ≤ _; exact Nat.le_of_eq rfl) (hb hby at_16) (fun _ _ => ⟨rfl, e16, (by decide : 2 + 1 ≤ _), (by decide : 5 + 1 ≤ _)⟩)
  dsimp only [Pt.U, Pt.locs, Pt.cells, Pt.slots] at X20 l20 y20 z20 st20 hQ20
  subst l20 y20 z20
  obtain ⟨rfl, N20q, K20q, hE20, hC20, t20, kb20, gt20, bt20, nt20, hV20, hA20⟩ := hQ20
  have N26 := Fr.app N19 N20q
  have ne27 : b1 ≠ t20 := Nat.ne_of_lt (Nat.lt_of_lt_of_le f23.lt bt20)
  have ne28 : b7 ≠ t20 := Nat.ne_of_lt (Nat.lt_of_lt_of_le f18.lt bt20)
  have g29 : n0 ≤ t20 := Nat.le_trans f22 bt20
  have bz30 : h0.size ≤ t20 := Nat.le_trans (K17).1 bt20
  have K31 : Keep h0 T20.heap [] := (K17).trans K20q (allS (P := fun x => x ∈ [] ∨ h0.size ≤ x) (Or.inr bz3) all0)
  have f32 : Av Z T20.heap t20 .byte (1 : Int32) [(.int ((nar .char ((p0_3 &&& (255 : Int32)).toUInt32.toUInt16.toUInt32.toInt32)).toInt8.toInt32))] (.int (0 : Int32)) := ⟨kb20, hA20⟩
  obtain ⟨T33, h33, X33, e33, E33, A33, D33, -, st33⟩ := newO X20 hx hZ hown wo30 wo31 wo32 rfl (g := (mkF m 21 #[iv p0_0, iv p0_1, iv p0_2, iv p0_3, rv b1, .unset, .unset, .unset, .unset] [])) rfl (hb hby at_21) (by decide) (by decide)
  obtain ⟨b33, gg33⟩ : ∃ z, z = T20.heap.size := ⟨_, rfl⟩
  rw [← gg33] at A33 D33 st33
  have ne34 : b1 ≠ b33 := Nat.ne_of_lt (Nat.lt_of_lt_of_le hE20.lt (Nat.le_of_eq gg33.symm))
  have f35 := (f18.keep K20q (ninS (Ne.symm ne8) nin0))
  have ne36 : b7 ≠ b33 := Nat.ne_of_lt (Nat.lt_of_lt_of_le f35.lt (Nat.le_of_eq gg33.symm))
  have ne37 : t20 ≠ b33 := Nat.ne_of_lt (Nat.lt_of_lt_of_le f32.lt (Nat.le_of_eq gg33.symm))
  have f39 := (Nat.le_trans f22 K20q.1)
  have g38 : n0 ≤ b33 := Nat.le_trans f39 (Nat.le_of_eq gg33.symm)
  have bz40 : h0.size ≤ b33 := Nat.le_trans (K31).1 (Nat.le_of_eq gg33.symm)
  have K41 : Keep h0 h33 [] := (K31).ext E33
  have f42 : Fld Z h33 b33 "com/example/topiq/topiq/protocol/TopicRoute$QueueData" "brokerName" "Ljava/lang/String;" .null := D33 (Or.inr wo38) (ty := (.object "java/lang/String")) (by decide)
  have f43 : Fld Z h33 b33 "com/example/topiq/topiq/protocol/TopicRoute$QueueData" "readQueueNums" "I" (.int (0 : Int32)) := D33 (Or.inr wo40) (ty := .int) (by decide)
  have f44 : Fld Z h33 b33 "com/example/topiq/topiq/protocol/TopicRoute$QueueData" "writeQueueNums" "I" (.int (0 : Int32)) := D33 (Or.inr wo42) (ty := .int) (by decide)
  have f45 : Fld Z h33 b33 "com/example/topiq/topiq/protocol/TopicRoute$QueueData" "perm" "I" (.int (0 : Int32)) := D33 (Or.inr wo44) (ty := .int) (by decide)
  have f47 := (Nat.le_trans f39 E33.1)
  obtain ⟨_, _, ⟨T46, L46, k46, n46⟩, -, X46, ⟨Lc46, hQ46, l46, y46, z46⟩, st46⟩ := X33.specialBack hx (y := MN7) rfl hown (mvT hZ wo33) (mvT hZ wo34) (mvT hZ wo35) (by decide) (backOf (W := 1) (rm7 l Z a0 hw [] b33 b1 p0_1 p0_2 p0_0 h33 n0 f47 A33 g38 f42 f43 f44 f45) hZ wo35 wo32 (by decide) (by decide)) (g := (mkF m 30 #[iv p0_0, iv p0_1, iv p0_2, iv p0_3, rv b1, .unset, .unset, .unset, .unset] [(.int p0_0), (.int p0_2), (.int p0_1), (.ref b1), (.ref b33), (.ref b33)])) rfl (by rw [hml]; rfl) (Steps.refl _) (a := b33) (argsL := [(.ref b1), (.int p0_1), (.int p0_2), (.int p0_0)]) (rest := [(.ref b33)]) (lenOf pd_2 rfl) rfl (by show 2 * 0 + _ ≤ _; exact Nat.le_of_eq rfl) (hb hby at_30) (fun _ _ => ⟨rfl, e33, (by decide : 4 + 0 ≤ _), (by decide : 10 + 0 ≤ _)⟩)
  dsimp only [Pt.U, Pt.locs, Pt.cells, Pt.slots] at X46 l46 y46 z46 st46 hQ46
  subst l46 y46 z46
  obtain ⟨rfl, N46q, K46q, hq46_0⟩ := hQ46
  have N48 := Fr.app N26 N46q
  have K49 : Keep h0 T46.heap [] := (K41).trans K46q (allS (P := fun x => x ∈ [] ∨ h0.size ≤ x) (Or.inr bz40) all0)
  obtain ⟨T50, h50, X50, e50, E50, A50, D50, -, st50⟩ := newO X46 hx hZ hown wo30 wo31 wo32 rfl (g := (mkF m 35 #[iv p0_0, iv p0_1, iv p0_2, iv p0_3, rv b1, rv b33, .unset, .unset, .unset] [])) rfl (hb hby at_35) (by decide) (by decide)
  obtain ⟨b50, gg50⟩ : ∃ z, z = T46.heap.size := ⟨_, rfl⟩
  rw [← gg50] at A50 D50 st50
  have f51 := ((hE20.ext E33).keep K46q)
  have ne52 : b1 ≠ b50 := Nat.ne_of_lt (Nat.lt_of_lt_of_le f51.lt (Nat.le_of_eq gg50.symm))
  have f53 := ((f35.ext E33).keep K46q (ninS ne36 nin0))
  have ne54 : b7 ≠ b50 := Nat.ne_of_lt (Nat.lt_of_lt_of_le f53.lt (Nat.le_of_eq gg50.symm))
  have f55 := ((f32.ext E33).keep K46q (ninS ne37 nin0))
  have ne56 : t20 ≠ b50 := Nat.ne_of_lt (Nat.lt_of_lt_of_le f55.lt (Nat.le_of_eq gg50.symm))
  have f57 := (A33.keep K46q)
  have ne58 : b33 ≠ b50 := Nat.ne_of_lt (Nat.lt_of_lt_of_le f57.lt (Nat.le_of_eq gg50.symm))
  have f60 := (Nat.le_trans f47 K46q.1)
  have g59 : n0 ≤ b50 := Nat.le_trans f60 (Nat.le_of_eq gg50.symm)
  have bz61 : h0.size ≤ b50 := Nat.le_trans (K49).1 (Nat.le_of_eq gg50.symm)
  have K62 : Keep h0 h50 [] := (K49).ext E50
  have f63 : Fld Z h50 b50 "com/example/topiq/topiq/protocol/TopicRoute$QueueData" "brokerName" "Ljava/lang/String;" .null := D50 (Or.inr wo38) (ty := (.object "java/lang/String")) (by decide)
  have f64 : Fld Z h50 b50 "com/example/topiq/topiq/protocol/TopicRoute$QueueData" "readQueueNums" "I" (.int (0 : Int32)) := D50 (Or.inr wo40) (ty := .int) (by decide)
  have f65 : Fld Z h50 b50 "com/example/topiq/topiq/protocol/TopicRoute$QueueData" "writeQueueNums" "I" (.int (0 : Int32)) := D50 (Or.inr wo42) (ty := .int) (by decide)
  have f66 : Fld Z h50 b50 "com/example/topiq/topiq/protocol/TopicRoute$QueueData" "perm" "I" (.int (0 : Int32)) := D50 (Or.inr wo44) (ty := .int) (by decide)
  have f68 := (Nat.le_trans f60 E50.1)
  obtain ⟨_, _, ⟨T67, L67, k67, n67⟩, -, X67, ⟨Lc67, hQ67, l67, y67, z67⟩, st67⟩ := X50.specialBack hx (y := MN7) rfl hown (mvT hZ wo33) (mvT hZ wo34) (mvT hZ wo35) (by decide) (backOf (W := 1) (rm7 l Z a0 hw [] b50 b1 p0_1 p0_2 (p0_0 ||| (4 : Int32)) h50 n0 f68 A50 g59 f63 f64 f65 f66) hZ wo35 wo32 (by decide) (by decide)) (g := (mkF m 46 #[iv p0_0, iv p0_1, iv p0_2, iv p0_3, rv b1, rv b33, .unset, .unset, .unset] [(.int (p0_0 ||| (4 : Int32))), (.int p0_2), (.int p0_1), (.ref b1), (.ref b50), (.ref b50)])) rfl (by rw [hml]; rfl) (Steps.refl _) (a := b50) (argsL := [(.ref b1), (.int p0_1), (.int p0_2), (.int (p0_0 ||| (4 : Int32)))]) (rest := [(.ref b50)]) (lenOf pd_2 rfl) rfl (by show 2 * 0 + _ ≤ _; exact Nat.le_of_eq rfl) (hb hby at_46) (fun _ _ => ⟨rfl, e50, (by decide : 5 + 0 ≤ _), (by decide : 14 + 0 ≤ _)⟩)
  dsimp only [Pt.U, Pt.locs, Pt.cells, Pt.slots] at X67 l67 y67 z67 st67 hQ67
  subst l67 y67 z67
  obtain ⟨rfl, N67q, K67q, hq67_0⟩ := hQ67
  have N69 := Fr.app N48 N67q
  have K70 : Keep h0 T67.heap [] := (K62).trans K67q (allS (P := fun x => x ∈ [] ∨ h0.size ≤ x) (Or.inr bz61) all0)
  obtain ⟨T71, h71, X71, e71, E71, A71, D71, -, st71⟩ := newO X67 hx hZ hown wo30 wo31 wo32 rfl (g := (mkF m 51 #[iv p0_0, iv p0_1, iv p0_2, iv p0_3, rv b1, rv b33, rv b50, .unset, .unset] [])) rfl (hb hby at_51) (by decide) (by decide)
  obtain ⟨b71, gg71⟩ : ∃ z, z = T67.heap.size := ⟨_, rfl⟩
  rw [← gg71] at A71 D71 st71
  have f72 := ((f51.ext E50).keep K67q)
  have ne73 : b1 ≠ b71 := Nat.ne_of_lt (Nat.lt_of_lt_of_le f72.lt (Nat.le_of_eq gg71.symm))
  have f74 := ((f53.ext E50).keep K67q (ninS ne54 nin0))
  have ne75 : b7 ≠ b71 := Nat.ne_of_lt (Nat.lt_of_lt_of_le f74.lt (Nat.le_of_eq gg71.symm))
  have f76 := ((f55.ext E50).keep K67q (ninS ne56 nin0))
  have ne77 : t20 ≠ b71 := Nat.ne_of_lt (Nat.lt_of_lt_of_le f76.lt (Nat.le_of_eq gg71.symm))
  have f78 := ((f57.ext E50).keep K67q)
  have ne79 : b33 ≠ b71 := Nat.ne_of_lt (Nat.lt_of_lt_of_le f78.lt (Nat.le_of_eq gg71.symm))
  have f80 := (A50.keep K67q)
  have ne81 : b50 ≠ b71 := Nat.ne_of_lt (Nat.lt_of_lt_of_le f80.lt (Nat.le_of_eq gg71.symm))
  have f83 := (Nat.le_trans f68 K67q.1)
  have g82 : n0 ≤ b71 := Nat.le_trans f83 (Nat.le_of_eq gg71.symm)
  have bz84 : h0.size ≤ b71 := Nat.le_trans (K70).1 (Nat.le_of_eq gg71.symm)
  have K85 : Keep h0 h71 [] := (K70).ext E71
  have f86 : Fld Z h71 b71 "com/example/topiq/topiq/protocol/TopicRoute$QueueData" "brokerName" "Ljava/lang/String;" .null := D71 (Or.inr wo38) (ty := (.object "java/lang/String")) (by decide)
  have f87 : Fld Z h71 b71 "com/example/topiq/topiq/protocol/TopicRoute$QueueData" "readQueueNums" "I" (.int (0 : Int32)) := D71 (Or.inr wo40) (ty := .int) (by decide)
  have f88 : Fld Z h71 b71 "com/example/topiq/topiq/protocol/TopicRoute$QueueData" "writeQueueNums" "I" (.int (0 : Int32)) := D71 (Or.inr wo42) (ty := .int) (by decide)
  have f89 : Fld Z h71 b71 "com/example/topiq/topiq/protocol/TopicRoute$QueueData" "perm" "I" (.int (0 : Int32)) := D71 (Or.inr wo44) (ty := .int) (by decide)
  have f91 := (Nat.le_trans f83 E71.1)
  obtain ⟨_, _, ⟨T90, L90, k90, n90⟩, -, X90, ⟨Lc90, hQ90, l90, y90, z90⟩, st90⟩ := X71.specialBack hx (y := MN7) rfl hown (mvT hZ wo33) (mvT hZ wo34) (mvT hZ wo35) (by decide) (backOf (W := 1) (rm7 l Z a0 hw [] b71 b1 p0_1 p0_2 (p0_0 &&& (-5 : Int32)) h71 n0 f91 A71 g82 f86 f87 f88 f89) hZ wo35 wo32 (by decide) (by decide)) (g := (mkF m 63 #[iv p0_0, iv p0_1, iv p0_2, iv p0_3, rv b1, rv b33, rv b50, .unset, .unset] [(.int (p0_0 &&& (-5 : Int32))), (.int p0_2), (.int p0_1), (.ref b1), (.ref b71), (.ref b71)])) rfl (by rw [hml]; rfl) (Steps.refl _) (a := b71) (argsL := [(.ref b1), (.int p0_1), (.int p0_2), (.int (p0_0 &&& (-5 : Int32)))]) (rest := [(.ref b71)]) (lenOf pd_2 rfl) rfl (by show 2 * 0 + _ ≤ _; exact Nat.le_of_eq rfl) (hb hby at_63) (fun _ _ => ⟨rfl, e71, (by decide : 6 + 0 ≤ _), (by decide : 18 + 0 ≤ _)⟩)
  dsimp only [Pt.U, Pt.locs, Pt.cells, Pt.slots] at X90 l90 y90 z90 st90 hQ90
  subst l90 y90 z90
  obtain ⟨rfl, N90q, K90q, hq90_0⟩ := hQ90
  have N92 := Fr.app N69 N90q
  have K93 : Keep h0 T90.heap [] := (K85).trans K90q (allS (P := fun x => x ∈ [] ∨ h0.size ≤ x) (Or.inr bz84) all0)
  have pre95 : ∀ t, Steps p.tables e below (T90.setTop (mkF m 74 #[iv p0_0, iv p0_1, iv p0_2, iv p0_3, rv b1, rv b33, rv b50, rv b71, .unset] [(.int (1 : Int32)), (.int (((p0_0.toUInt32 >>> ((2 : Int32) &&& 31).toUInt32).toInt32) &&& (1 : Int32)))])) t → Steps p.tables e below (s₁.setTop (entryFrame m #[(.int p0_0), (.int p0_1), (.int p0_2), (.int p0_3)] maxLocals)) t := by
    intro t k
    refine pre0 _ ?_
    show Steps p.tables e below (s₁.setTop (mkF m 0 #[iv p0_0, iv p0_1, iv p0_2, iv p0_3, .unset, .unset, .unset, .unset, .unset] [])) _
    refine st1 _ ?_
    show Steps p.tables e below (T1.setTop (mkF m 3 #[iv p0_0, iv p0_1, iv p0_2, iv p0_3, .unset, .unset, .unset, .unset, .unset] [(.ref b1)])) _
    refine XS.dup X1.here hx rfl (hb hby at_3) rfl rfl ?_
    show Steps p.tables e below (T1.setTop (mkF m 4 #[iv p0_0, iv p0_1, iv p0_2, iv p0_3, .unset, .unset, .unset, .unset, .unset] [(.ref b1), (.ref b1)])) _
    refine XS.iconst X1.here hx rfl (hb hby at_4) ?_
    show Steps p.tables e below (T1.setTop (mkF m 5 #[iv p0_0, iv p0_1, iv p0_2, iv p0_3, .unset, .unset, .unset, .unset, .unset] [(.int (1 : Int32)), (.ref b1), (.ref b1)])) _
    refine st7 _ ?_
    show Steps p.tables e below (T7.setTop (mkF m 7 #[iv p0_0, iv p0_1, iv p0_2, iv p0_3, .unset, .unset, .unset, .unset, .unset] [(.ref b7), (.ref b1), (.ref b1)])) _
    refine XS.dup X7.here hx rfl (hb hby at_7) rfl rfl ?_
    show Steps p.tables e below (T7.setTop (mkF m 8 #[iv p0_0, iv p0_1, iv p0_2, iv p0_3, .unset, .unset, .unset, .unset, .unset] [(.ref b7), (.ref b7), (.ref b1), (.ref b1)])) _
    refine XS.iconst X7.here hx rfl (hb hby at_8) ?_
    show Steps p.tables e below (T7.setTop (mkF m 9 #[iv p0_0, iv p0_1, iv p0_2, iv p0_3, .unset, .unset, .unset, .unset, .unset] [(.int (0 : Int32)), (.ref b7), (.ref b7), (.ref b1), (.ref b1)])) _
    refine XS.iloadN X7.here hx rfl (hb hby at_9) rfl ?_
    show Steps p.tables e below (T7.setTop (mkF m 10 #[iv p0_0, iv p0_1, iv p0_2, iv p0_3, .unset, .unset, .unset, .unset, .unset] [(.int p0_3), (.int (0 : Int32)), (.ref b7), (.ref b7), (.ref b1), (.ref b1)])) _
    refine XS.sipush X7.here hx rfl (hb hby at_10) ?_
    show Steps p.tables e below (T7.setTop (mkF m 13 #[iv p0_0, iv p0_1, iv p0_2, iv p0_3, .unset, .unset, .unset, .unset, .unset] [(.int (255 : Int32)), (.int p0_3), (.int (0 : Int32)), (.ref b7), (.ref b7), (.ref b1), (.ref b1)])) _
    refine XS.iand X7.here hx rfl (hb hby at_13) rfl ?_
    show Steps p.tables e below (T7.setTop (mkF m 14 #[iv p0_0, iv p0_1, iv p0_2, iv p0_3, .unset, .unset, .unset, .unset, .unset] [(.int (p0_3 &&& (255 : Int32))), (.int (0 : Int32)), (.ref b7), (.ref b7), (.ref b1), (.ref b1)])) _
    refine XS.i2c X7.here hx rfl (hb hby at_14) rfl ?_
    show Steps p.tables e below (T7.setTop (mkF m 15 #[iv p0_0, iv p0_1, iv p0_2, iv p0_3, .unset, .unset, .unset, .unset, .unset] [(.int ((p0_3 &&& (255 : Int32)).toUInt32.toUInt16.toUInt32.toInt32)), (.int (0 : Int32)), (.ref b7), (.ref b7), (.ref b1), (.ref b1)])) _
    refine st16 _ ?_
    show Steps p.tables e below (T16.setTop (mkF m 16 #[iv p0_0, iv p0_1, iv p0_2, iv p0_3, .unset, .unset, .unset, .unset, .unset] [(.ref b7), (.ref b1), (.ref b1)])) _
    refine st20.trans ?_
    show Steps p.tables e below (T20.setTop (mkF m 19 #[iv p0_0, iv p0_1, iv p0_2, iv p0_3, .unset, .unset, .unset, .unset, .unset] [(.ref b1)])) _
    refine XS.astore X20.here hx rfl (hb hby at_19) rfl rfl (l' := #[iv p0_0, iv p0_1, iv p0_2, iv p0_3, rv b1, .unset, .unset, .unset, .unset]) rfl ?_
    show Steps p.tables e below (T20.setTop (mkF m 21 #[iv p0_0, iv p0_1, iv p0_2, iv p0_3, rv b1, .unset, .unset, .unset, .unset] [])) _
    refine st33 _ ?_
    show Steps p.tables e below (T33.setTop (mkF m 24 #[iv p0_0, iv p0_1, iv p0_2, iv p0_3, rv b1, .unset, .unset, .unset, .unset] [(.ref b33)])) _
    refine XS.dup X33.here hx rfl (hb hby at_24) rfl rfl ?_
    show Steps p.tables e below (T33.setTop (mkF m 25 #[iv p0_0, iv p0_1, iv p0_2, iv p0_3, rv b1, .unset, .unset, .unset, .unset] [(.ref b33), (.ref b33)])) _
    refine XS.aload X33.here hx rfl (hb hby at_25) rfl rfl ?_
    show Steps p.tables e below (T33.setTop (mkF m 27 #[iv p0_0, iv p0_1, iv p0_2, iv p0_3, rv b1, .unset, .unset, .unset, .unset] [(.ref b1), (.ref b33), (.ref b33)])) _
    refine XS.iloadN X33.here hx rfl (hb hby at_27) rfl ?_
    show Steps p.tables e below (T33.setTop (mkF m 28 #[iv p0_0, iv p0_1, iv p0_2, iv p0_3, rv b1, .unset, .unset, .unset, .unset] [(.int p0_1), (.ref b1), (.ref b33), (.ref b33)])) _
    refine XS.iloadN X33.here hx rfl (hb hby at_28) rfl ?_
    show Steps p.tables e below (T33.setTop (mkF m 29 #[iv p0_0, iv p0_1, iv p0_2, iv p0_3, rv b1, .unset, .unset, .unset, .unset] [(.int p0_2), (.int p0_1), (.ref b1), (.ref b33), (.ref b33)])) _
    refine XS.iloadN X33.here hx rfl (hb hby at_29) rfl ?_
    show Steps p.tables e below (T33.setTop (mkF m 30 #[iv p0_0, iv p0_1, iv p0_2, iv p0_3, rv b1, .unset, .unset, .unset, .unset] [(.int p0_0), (.int p0_2), (.int p0_1), (.ref b1), (.ref b33), (.ref b33)])) _
    refine st46.trans ?_
    show Steps p.tables e below (T46.setTop (mkF m 33 #[iv p0_0, iv p0_1, iv p0_2, iv p0_3, rv b1, .unset, .unset, .unset, .unset] [(.ref b33)])) _
    refine XS.astore X46.here hx rfl (hb hby at_33) rfl rfl (l' := #[iv p0_0, iv p0_1, iv p0_2, iv p0_3, rv b1, rv b33, .unset, .unset, .unset]) rfl ?_
    show Steps p.tables e below (T46.setTop (mkF m 35 #[iv p0_0, iv p0_1, iv p0_2, iv p0_3, rv b1, rv b33, .unset, .unset, .unset] [])) _
    refine st50 _ ?_
    show Steps p.tables e below (T50.setTop (mkF m 38 #[iv p0_0, iv p0_1, iv p0_2, iv p0_3, rv b1, rv b33, .unset, .unset, .unset] [(.ref b50)])) _
    refine XS.dup X50.here hx rfl (hb hby at_38) rfl rfl ?_
    show Steps p.tables e below (T50.setTop (mkF m 39 #[iv p0_0, iv p0_1, iv p0_2, iv p0_3, rv b1, rv b33, .unset, .unset, .unset] [(.ref b50), (.ref b50)])) _
    refine XS.aload X50.here hx rfl (hb hby at_39) rfl rfl ?_
    show Steps p.tables e below (T50.setTop (mkF m 41 #[iv p0_0, iv p0_1, iv p0_2, iv p0_3, rv b1, rv b33, .unset, .unset, .unset] [(.ref b1), (.ref b50), (.ref b50)])) _
    refine XS.iloadN X50.here hx rfl (hb hby at_41) rfl ?_
    show Steps p.tables e below (T50.setTop (mkF m 42 #[iv p0_0, iv p0_1, iv p0_2, iv p0_3, rv b1, rv b33, .unset, .unset, .unset] [(.int p0_1), (.ref b1), (.ref b50), (.ref b50)])) _
    refine XS.iloadN X50.here hx rfl (hb hby at_42) rfl ?_
    show Steps p.tables e below (T50.setTop (mkF m 43 #[iv p0_0, iv p0_1, iv p0_2, iv p0_3, rv b1, rv b33, .unset, .unset, .unset] [(.int p0_2), (.int p0_1), (.ref b1), (.ref b50), (.ref b50)])) _
    refine XS.iloadN X50.here hx rfl (hb hby at_43) rfl ?_
    show Steps p.tables e below (T50.setTop (mkF m 44 #[iv p0_0, iv p0_1, iv p0_2, iv p0_3, rv b1, rv b33, .unset, .unset, .unset] [(.int p0_0), (.int p0_2), (.int p0_1), (.ref b1), (.ref b50), (.ref b50)])) _
    refine XS.iconst X50.here hx rfl (hb hby at_44) ?_
    show Steps p.tables e below (T50.setTop (mkF m 45 #[iv p0_0, iv p0_1, iv p0_2, iv p0_3, rv b1, rv b33, .unset, .unset, .unset] [(.int (4 : Int32)), (.int p0_0), (.int p0_2), (.int p0_1), (.ref b1), (.ref b50), (.ref b50)])) _
    refine XS.ior X50.here hx rfl (hb hby at_45) rfl ?_
    show Steps p.tables e below (T50.setTop (mkF m 46 #[iv p0_0, iv p0_1, iv p0_2, iv p0_3, rv b1, rv b33, .unset, .unset, .unset] [(.int (p0_0 ||| (4 : Int32))), (.int p0_2), (.int p0_1), (.ref b1), (.ref b50), (.ref b50)])) _
    refine st67.trans ?_
    show Steps p.tables e below (T67.setTop (mkF m 49 #[iv p0_0, iv p0_1, iv p0_2, iv p0_3, rv b1, rv b33, .unset, .unset, .unset] [(.ref b50)])) _
    refine XS.astore X67.here hx rfl (hb hby at_49) rfl rfl (l' := #[iv p0_0, iv p0_1, iv p0_2, iv p0_3, rv b1, rv b33, rv b50, .unset, .unset]) rfl ?_
    show Steps p.tables e below (T67.setTop (mkF m 51 #[iv p0_0, iv p0_1, iv p0_2, iv p0_3, rv b1, rv b33, rv b50, .unset, .unset] [])) _
    refine st71 _ ?_
    show Steps p.tables e below (T71.setTop (mkF m 54 #[iv p0_0, iv p0_1, iv p0_2, iv p0_3, rv b1, rv b33, rv b50, .unset, .unset] [(.ref b71)])) _
    refine XS.dup X71.here hx rfl (hb hby at_54) rfl rfl ?_
    show Steps p.tables e below (T71.setTop (mkF m 55 #[iv p0_0, iv p0_1, iv p0_2, iv p0_3, rv b1, rv b33, rv b50, .unset, .unset] [(.ref b71), (.ref b71)])) _
    refine XS.aload X71.here hx rfl (hb hby at_55) rfl rfl ?_
    show Steps p.tables e below (T71.setTop (mkF m 57 #[iv p0_0, iv p0_1, iv p0_2, iv p0_3, rv b1, rv b33, rv b50, .unset, .unset] [(.ref b1), (.ref b71), (.ref b71)])) _
    refine XS.iloadN X71.here hx rfl (hb hby at_57) rfl ?_
    show Steps p.tables e below (T71.setTop (mkF m 58 #[iv p0_0, iv p0_1, iv p0_2, iv p0_3, rv b1, rv b33, rv b50, .unset, .unset] [(.int p0_1), (.ref b1), (.ref b71), (.ref b71)])) _
    refine XS.iloadN X71.here hx rfl (hb hby at_58) rfl ?_
    show Steps p.tables e below (T71.setTop (mkF m 59 #[iv p0_0, iv p0_1, iv p0_2, iv p0_3, rv b1, rv b33, rv b50, .unset, .unset] [(.int p0_2), (.int p0_1), (.ref b1), (.ref b71), (.ref b71)])) _
    refine XS.iloadN X71.here hx rfl (hb hby at_59) rfl ?_
    show Steps p.tables e below (T71.setTop (mkF m 60 #[iv p0_0, iv p0_1, iv p0_2, iv p0_3, rv b1, rv b33, rv b50, .unset, .unset] [(.int p0_0), (.int p0_2), (.int p0_1), (.ref b1), (.ref b71), (.ref b71)])) _
    refine XS.bipush X71.here hx rfl (hb hby at_60) ?_
    show Steps p.tables e below (T71.setTop (mkF m 62 #[iv p0_0, iv p0_1, iv p0_2, iv p0_3, rv b1, rv b33, rv b50, .unset, .unset] [(.int (-5 : Int32)), (.int p0_0), (.int p0_2), (.int p0_1), (.ref b1), (.ref b71), (.ref b71)])) _
    refine XS.iand X71.here hx rfl (hb hby at_62) rfl ?_
    show Steps p.tables e below (T71.setTop (mkF m 63 #[iv p0_0, iv p0_1, iv p0_2, iv p0_3, rv b1, rv b33, rv b50, .unset, .unset] [(.int (p0_0 &&& (-5 : Int32))), (.int p0_2), (.int p0_1), (.ref b1), (.ref b71), (.ref b71)])) _
    refine st90.trans ?_
    show Steps p.tables e below (T90.setTop (mkF m 66 #[iv p0_0, iv p0_1, iv p0_2, iv p0_3, rv b1, rv b33, rv b50, .unset, .unset] [(.ref b71)])) _
    refine XS.astore X90.here hx rfl (hb hby at_66) rfl rfl (l' := #[iv p0_0, iv p0_1, iv p0_2, iv p0_3, rv b1, rv b33, rv b50, rv b71, .unset]) rfl ?_
    show Steps p.tables e below (T90.setTop (mkF m 68 #[iv p0_0, iv p0_1, iv p0_2, iv p0_3, rv b1, rv b33, rv b50, rv b71, .unset] [])) _
    refine XS.iloadN X90.here hx rfl (hb hby at_68) rfl ?_
    show Steps p.tables e below (T90.setTop (mkF m 69 #[iv p0_0, iv p0_1, iv p0_2, iv p0_3, rv b1, rv b33, rv b50, rv b71, .unset] [(.int p0_0)])) _
    refine XS.iconst X90.here hx rfl (hb hby at_69) ?_
    show Steps p.tables e below (T90.setTop (mkF m 70 #[iv p0_0, iv p0_1, iv p0_2, iv p0_3, rv b1, rv b33, rv b50, rv b71, .unset] [(.int (2 : Int32)), (.int p0_0)])) _
    refine XS.iushr X90.here hx rfl (hb hby at_70) rfl ?_
    show Steps p.tables e below (T90.setTop (mkF m 71 #[iv p0_0, iv p0_1, iv p0_2, iv p0_3, rv b1, rv b33, rv b50, rv b71, .unset] [(.int ((p0_0.toUInt32 >>> ((2 : Int32) &&& 31).toUInt32).toInt32))])) _
    refine XS.iconst X90.here hx rfl (hb hby at_71) ?_
    show Steps p.tables e below (T90.setTop (mkF m 72 #[iv p0_0, iv p0_1, iv p0_2, iv p0_3, rv b1, rv b33, rv b50, rv b71, .unset] [(.int (1 : Int32)), (.int ((p0_0.toUInt32 >>> ((2 : Int32) &&& 31).toUInt32).toInt32))])) _
    refine XS.iand X90.here hx rfl (hb hby at_72) rfl ?_
    show Steps p.tables e below (T90.setTop (mkF m 73 #[iv p0_0, iv p0_1, iv p0_2, iv p0_3, rv b1, rv b33, rv b50, rv b71, .unset] [(.int (((p0_0.toUInt32 >>> ((2 : Int32) &&& 31).toUInt32).toInt32) &&& (1 : Int32)))])) _
    refine XS.iconst X90.here hx rfl (hb hby at_73) ?_
    exact k
  by_cases hc74_94 : (((p0_0.toUInt32 >>> ((2 : Int32) &&& 31).toUInt32).toInt32) &&& (1 : Int32)) = (1 : Int32)
  · skip
    have f96 := ((((hq46_0.ext E50).keep K67q (ninS ne58 nin0)).ext E71).keep K90q (ninS ne79 nin0))
    have f98 := (Nat.le_trans f91 K90q.1)
    have f99 := ((f78.ext E71).keep K90q)
    obtain ⟨cq97, kq97, q97a, q97b, q97c⟩ := isOf hZ rfl f99
    obtain ⟨_, _, ⟨T97, L97, k97, n97⟩, -, X97, ⟨Lc97, hQ97, l97, y97, z97⟩, st97⟩ := X90.virtualBack hx (y := MN8) (z := MN8) hown (mvT hZ wo45) (mvT hZ wo46) (notFace_of_selects (args := #[]) (mvT hZ wo48)) (mvT hZ wo48) (mvT hZ wo47) (by decide) (backOf (W := 0) (rm8 l Z a0 hw [] b33 p0_0 (T90.heap) n0 f98 f96) hZ wo49 wo32 (by decide) (by decide)) q97a q97c (g := (mkF m 86 #[iv p0_0, iv p0_1, iv p0_2, iv p0_3, rv b1, rv b33, rv b50, rv b71, iv (1 : Int32)] [(.ref b33)])) rfl (by rw [hml]; rfl) (Steps.refl _) (argsL := []) (rest := []) (lenOf pd_1 rfl) rfl (by show 2 * 0 + _ ≤ _; exact Nat.le_of_eq rfl) (hb hby at_86) (fun _ _ => ⟨rfl, rfl, (by decide : 6 + 0 ≤ _), (by decide : 18 + 0 ≤ _)⟩)
    dsimp only [Pt.U, Pt.locs, Pt.cells, Pt.slots] at X97 l97 y97 z97 st97 hQ97
    subst l97 y97 z97
    obtain ⟨rfl, N97q, K97q⟩ := hQ97
    have N100 := Fr.app N92 N97q
    have q101 : (if (p0_0 &&& (4 : Int32)) = (0 : Int32) then (0 : Int32) else (1 : Int32)) = (1 : Int32) := if_neg ((own_w1 p0_0).mp hc74_94)
    have f102 := ((hq67_0.ext E71).keep K90q (ninS ne81 nin0))
    have f104 := ((f80.ext E71).keep K90q)
    obtain ⟨cq103, kq103, q103a, q103b, q103c⟩ := isOf hZ K97q f104
    obtain ⟨_, _, ⟨T103, L103, k103, n103⟩, -, X103, ⟨Lc103, hQ103, l103, y103, z103⟩, st103⟩ := X97.virtualBack hx (y := MN8) (z := MN8) hown (mvT hZ wo45) (mvT hZ wo46) (notFace_of_selects (args := #[]) (mvT hZ wo48)) (mvT hZ wo48) (mvT hZ wo47) (by decide) (backOf (W := 0) (rm8 l Z a0 hw [] b50 (p0_0 ||| (4 : Int32)) (T90.heap) n0 f98 f102) hZ wo49 wo32 (by decide) (by decide)) q103a q103c (g := (mkF m 96 #[iv p0_0, iv p0_1, iv p0_2, iv p0_3, rv b1, rv b33, rv b50, rv b71, iv (1 : Int32)] [(.ref b50)])) rfl (by rw [hml]; rfl) (Steps.refl _) (argsL := []) (rest := []) (lenOf pd_1 rfl) rfl (by show 2 * 0 + _ ≤ _; exact Nat.le_of_eq rfl) (hb hby at_96) (fun _ _ => ⟨rfl, K97q, (by decide : 6 + 0 ≤ _), (by decide : 18 + 0 ≤ _)⟩)
    dsimp only [Pt.U, Pt.locs, Pt.cells, Pt.slots] at X103 l103 y103 z103 st103 hQ103
    subst l103 y103 z103
    obtain ⟨rfl, N103q, K103q⟩ := hQ103
    have N105 := Fr.app N100 N103q
    have q106 : (if ((p0_0 ||| (4 : Int32)) &&& (4 : Int32)) = (0 : Int32) then (0 : Int32) else (1 : Int32)) = (1 : Int32) := if_neg (by rw [own_or]; decide)
    have f108 := (A71.keep K90q)
    obtain ⟨cq107, kq107, q107a, q107b, q107c⟩ := isOf hZ K103q f108
    obtain ⟨_, _, ⟨T107, L107, k107, n107⟩, -, X107, ⟨Lc107, hQ107, l107, y107, z107⟩, st107⟩ := X103.virtualBack hx (y := MN8) (z := MN8) hown (mvT hZ wo45) (mvT hZ wo46) (notFace_of_selects (args := #[]) (mvT hZ wo48)) (mvT hZ wo48) (mvT hZ wo47) (by decide) (backOf (W := 0) (rm8 l Z a0 hw [] b71 (p0_0 &&& (-5 : Int32)) (T90.heap) n0 f98 hq90_0) hZ wo49 wo32 (by decide) (by decide)) q107a q107c (g := (mkF m 104 #[iv p0_0, iv p0_1, iv p0_2, iv p0_3, rv b1, rv b33, rv b50, rv b71, iv (1 : Int32)] [(.ref b71)])) rfl (by rw [hml]; rfl) (Steps.refl _) (argsL := []) (rest := []) (lenOf pd_1 rfl) rfl (by show 2 * 0 + _ ≤ _; exact Nat.le_of_eq rfl) (hb hby at_104) (fun _ _ => ⟨rfl, K103q, (by decide : 6 + 0 ≤ _), (by decide : 18 + 0 ≤ _)⟩)
    dsimp only [Pt.U, Pt.locs, Pt.cells, Pt.slots] at X107 l107 y107 z107 st107 hQ107
    subst l107 y107 z107
    obtain ⟨rfl, N107q, K107q⟩ := hQ107
    have N109 := Fr.app N105 N107q
    have q110 : (if ((p0_0 &&& (-5 : Int32)) &&& (4 : Int32)) = (0 : Int32) then (0 : Int32) else (1 : Int32)) = (0 : Int32) := if_pos (own_an _)
    obtain ⟨fs, hr, hrun, hended, hW, hsame⟩ := X107.leave (v := some (.int (1 : Int32))) (fun h => by rw [Bd.returns] at h; cases h)
    refine ⟨_, _, pre95 _ ?_, hrun, hended, _, _, rfl, ?_, ⟨_, rfl⟩, hW, hsame.mono (by decide) (by decide)⟩
    · show Steps p.tables e below (T90.setTop (mkF m 74 #[iv p0_0, iv p0_1, iv p0_2, iv p0_3, rv b1, rv b33, rv b50, rv b71, .unset] [(.int (1 : Int32)), (.int (((p0_0.toUInt32 >>> ((2 : Int32) &&& 31).toUInt32).toInt32) &&& (1 : Int32)))])) _
      refine XS.icmpNo X90.here hx rfl (hb hby at_74) rfl (teq hc74_94).2 ?_
      show Steps p.tables e below (T90.setTop (mkF m 77 #[iv p0_0, iv p0_1, iv p0_2, iv p0_3, rv b1, rv b33, rv b50, rv b71, .unset] [])) _
      refine XS.iconst X90.here hx rfl (hb hby at_77) ?_
      show Steps p.tables e below (T90.setTop (mkF m 78 #[iv p0_0, iv p0_1, iv p0_2, iv p0_3, rv b1, rv b33, rv b50, rv b71, .unset] [(.int (1 : Int32))])) _
      refine XS.goto X90.here hx rfl (pc0 := 78) (pc' := 82) rfl (hb hby at_78) (by decide) (by decide) ?_
      show Steps p.tables e below (T90.setTop (mkF m 82 #[iv p0_0, iv p0_1, iv p0_2, iv p0_3, rv b1, rv b33, rv b50, rv b71, .unset] [(.int (1 : Int32))])) _
      refine XS.istore X90.here hx rfl (hb hby at_82) rfl (l' := #[iv p0_0, iv p0_1, iv p0_2, iv p0_3, rv b1, rv b33, rv b50, rv b71, iv (1 : Int32)]) rfl ?_
      show Steps p.tables e below (T90.setTop (mkF m 84 #[iv p0_0, iv p0_1, iv p0_2, iv p0_3, rv b1, rv b33, rv b50, rv b71, iv (1 : Int32)] [])) _
      refine XS.aload X90.here hx rfl (hb hby at_84) rfl rfl ?_
      show Steps p.tables e below (T90.setTop (mkF m 86 #[iv p0_0, iv p0_1, iv p0_2, iv p0_3, rv b1, rv b33, rv b50, rv b71, iv (1 : Int32)] [(.ref b33)])) _
      refine st97.trans ?_
      rw [q101]
      show Steps p.tables e below (T97.setTop (mkF m 89 #[iv p0_0, iv p0_1, iv p0_2, iv p0_3, rv b1, rv b33, rv b50, rv b71, iv (1 : Int32)] [(.int (1 : Int32))])) _
      show Steps p.tables e below (T97.setTop (mkF m 89 #[iv p0_0, iv p0_1, iv p0_2, iv p0_3, rv b1, rv b33, rv b50, rv b71, iv (1 : Int32)] [(.int (1 : Int32))])) _
      refine XS.iload X97.here hx rfl (hb hby at_89) rfl ?_
      show Steps p.tables e below (T97.setTop (mkF m 91 #[iv p0_0, iv p0_1, iv p0_2, iv p0_3, rv b1, rv b33, rv b50, rv b71, iv (1 : Int32)] [(.int (1 : Int32)), (.int (1 : Int32))])) _
      refine XS.icmpNo X97.here hx rfl (hb hby at_91) rfl (teq (by decide : (1 : Int32) = (1 : Int32))).2 ?_
      show Steps p.tables e below (T97.setTop (mkF m 94 #[iv p0_0, iv p0_1, iv p0_2, iv p0_3, rv b1, rv b33, rv b50, rv b71, iv (1 : Int32)] [])) _
      refine XS.aload X97.here hx rfl (hb hby at_94) rfl rfl ?_
      show Steps p.tables e below (T97.setTop (mkF m 96 #[iv p0_0, iv p0_1, iv p0_2, iv p0_3, rv b1, rv b33, rv b50, rv b71, iv (1 : Int32)] [(.ref b50)])) _
      refine st103.trans ?_
      rw [q106]
      show Steps p.tables e below (T103.setTop (mkF m 99 #[iv p0_0, iv p0_1, iv p0_2, iv p0_3, rv b1, rv b33, rv b50, rv b71, iv (1 : Int32)] [(.int (1 : Int32))])) _
      show Steps p.tables e below (T103.setTop (mkF m 99 #[iv p0_0, iv p0_1, iv p0_2, iv p0_3, rv b1, rv b33, rv b50, rv b71, iv (1 : Int32)] [(.int (1 : Int32))])) _
      refine XS.ifNo X103.here hx rfl (hb hby at_99) rfl ((if0 _ _).trans (feq (by decide : ¬ ((1 : Int32) = (0 : Int32)))).1) ?_
      show Steps p.tables e below (T103.setTop (mkF m 102 #[iv p0_0, iv p0_1, iv p0_2, iv p0_3, rv b1, rv b33, rv b50, rv b71, iv (1 : Int32)] [])) _
      refine XS.aload X103.here hx rfl (hb hby at_102) rfl rfl ?_
      show Steps p.tables e below (T103.setTop (mkF m 104 #[iv p0_0, iv p0_1, iv p0_2, iv p0_3, rv b1, rv b33, rv b50, rv b71, iv (1 : Int32)] [(.ref b71)])) _
      refine st107.trans ?_
      rw [q110]
      show Steps p.tables e below (T107.setTop (mkF m 107 #[iv p0_0, iv p0_1, iv p0_2, iv p0_3, rv b1, rv b33, rv b50, rv b71, iv (1 : Int32)] [(.int (0 : Int32))])) _
      show Steps p.tables e below (T107.setTop (mkF m 107 #[iv p0_0, iv p0_1, iv p0_2, iv p0_3, rv b1, rv b33, rv b50, rv b71, iv (1 : Int32)] [(.int (0 : Int32))])) _
      refine XS.ifNo X107.here hx rfl (hb hby at_107) rfl ((if0 _ _).trans (teq (by decide : (0 : Int32) = (0 : Int32))).2) ?_
      show Steps p.tables e below (T107.setTop (mkF m 110 #[iv p0_0, iv p0_1, iv p0_2, iv p0_3, rv b1, rv b33, rv b50, rv b71, iv (1 : Int32)] [])) _
      refine XS.iconst X107.here hx rfl (hb hby at_110) ?_
      show Steps p.tables e below (T107.setTop (mkF m 111 #[iv p0_0, iv p0_1, iv p0_2, iv p0_3, rv b1, rv b33, rv b50, rv b71, iv (1 : Int32)] [(.int (1 : Int32))])) _
      refine XS.goto X107.here hx rfl (pc0 := 111) (pc' := 115) rfl (hb hby at_111) (by decide) (by decide) ?_
      show Steps p.tables e below (T107.setTop (mkF m 115 #[iv p0_0, iv p0_1, iv p0_2, iv p0_3, rv b1, rv b33, rv b50, rv b71, iv (1 : Int32)] [(.int (1 : Int32))])) _
      exact retN X107 hx (t := .boolean) Bd.returns (by simp) (hb hby at_115) hr
    · show Q_rm0 Z _ _ _ _ _ h0 n0 _ T107.heap _
      rw [K107q]
      exact ⟨rfl, N109, (K93)⟩
  · skip
    have f111 := ((((hq46_0.ext E50).keep K67q (ninS ne58 nin0)).ext E71).keep K90q (ninS ne79 nin0))
    have f113 := (Nat.le_trans f91 K90q.1)
    have f114 := ((f78.ext E71).keep K90q)
    obtain ⟨cq112, kq112, q112a, q112b, q112c⟩ := isOf hZ rfl f114
    obtain ⟨_, _, ⟨T112, L112, k112, n112⟩, -, X112, ⟨Lc112, hQ112, l112, y112, z112⟩, st112⟩ := X90.virtualBack hx (y := MN8) (z := MN8) hown (mvT hZ wo45) (mvT hZ wo46) (notFace_of_selects (args := #[]) (mvT hZ wo48)) (mvT hZ wo48) (mvT hZ wo47) (by decide) (backOf (W := 0) (rm8 l Z a0 hw [] b33 p0_0 (T90.heap) n0 f113 f111) hZ wo49 wo32 (by decide) (by decide)) q112a q112c (g := (mkF m 86 #[iv p0_0, iv p0_1, iv p0_2, iv p0_3, rv b1, rv b33, rv b50, rv b71, iv (0 : Int32)] [(.ref b33)])) rfl (by rw [hml]; rfl) (Steps.refl _) (argsL := []) (rest := []) (lenOf pd_1 rfl) rfl (by show 2 * 0 + _ ≤ _; exact Nat.le_of_eq rfl) (hb hby at_86) (fun _ _ => ⟨rfl, rfl, (by decide : 6 + 0 ≤ _), (by decide : 18 + 0 ≤ _)⟩)
    dsimp only [Pt.U, Pt.locs, Pt.cells, Pt.slots] at X112 l112 y112 z112 st112 hQ112
    subst l112 y112 z112
    obtain ⟨rfl, N112q, K112q⟩ := hQ112
    have N115 := Fr.app N92 N112q
    have q116 : (if (p0_0 &&& (4 : Int32)) = (0 : Int32) then (0 : Int32) else (1 : Int32)) = (0 : Int32) := if_pos (Classical.not_not.mp (fun q => hc74_94 ((own_w1 p0_0).mpr q)))
    have f117 := ((hq67_0.ext E71).keep K90q (ninS ne81 nin0))
    have f119 := ((f80.ext E71).keep K90q)
    obtain ⟨cq118, kq118, q118a, q118b, q118c⟩ := isOf hZ K112q f119
    obtain ⟨_, _, ⟨T118, L118, k118, n118⟩, -, X118, ⟨Lc118, hQ118, l118, y118, z118⟩, st118⟩ := X112.virtualBack hx (y := MN8) (z := MN8) hown (mvT hZ wo45) (mvT hZ wo46) (notFace_of_selects (args := #[]) (mvT hZ wo48)) (mvT hZ wo48) (mvT hZ wo47) (by decide) (backOf (W := 0) (rm8 l Z a0 hw [] b50 (p0_0 ||| (4 : Int32)) (T90.heap) n0 f113 f117) hZ wo49 wo32 (by decide) (by decide)) q118a q118c (g := (mkF m 96 #[iv p0_0, iv p0_1, iv p0_2, iv p0_3, rv b1, rv b33, rv b50, rv b71, iv (0 : Int32)] [(.ref b50)])) rfl (by rw [hml]; rfl) (Steps.refl _) (argsL := []) (rest := []) (lenOf pd_1 rfl) rfl (by show 2 * 0 + _ ≤ _; exact Nat.le_of_eq rfl) (hb hby at_96) (fun _ _ => ⟨rfl, K112q, (by decide : 6 + 0 ≤ _), (by decide : 18 + 0 ≤ _)⟩)
    dsimp only [Pt.U, Pt.locs, Pt.cells, Pt.slots] at X118 l118 y118 z118 st118 hQ118
    subst l118 y118 z118
    obtain ⟨rfl, N118q, K118q⟩ := hQ118
    have N120 := Fr.app N115 N118q
    have q121 : (if ((p0_0 ||| (4 : Int32)) &&& (4 : Int32)) = (0 : Int32) then (0 : Int32) else (1 : Int32)) = (1 : Int32) := if_neg (by rw [own_or]; decide)
    have f123 := (A71.keep K90q)
    obtain ⟨cq122, kq122, q122a, q122b, q122c⟩ := isOf hZ K118q f123
    obtain ⟨_, _, ⟨T122, L122, k122, n122⟩, -, X122, ⟨Lc122, hQ122, l122, y122, z122⟩, st122⟩ := X118.virtualBack hx (y := MN8) (z := MN8) hown (mvT hZ wo45) (mvT hZ wo46) (notFace_of_selects (args := #[]) (mvT hZ wo48)) (mvT hZ wo48) (mvT hZ wo47) (by decide) (backOf (W := 0) (rm8 l Z a0 hw [] b71 (p0_0 &&& (-5 : Int32)) (T90.heap) n0 f113 hq90_0) hZ wo49 wo32 (by decide) (by decide)) q122a q122c (g := (mkF m 104 #[iv p0_0, iv p0_1, iv p0_2, iv p0_3, rv b1, rv b33, rv b50, rv b71, iv (0 : Int32)] [(.ref b71)])) rfl (by rw [hml]; rfl) (Steps.refl _) (argsL := []) (rest := []) (lenOf pd_1 rfl) rfl (by show 2 * 0 + _ ≤ _; exact Nat.le_of_eq rfl) (hb hby at_104) (fun _ _ => ⟨rfl, K118q, (by decide : 6 + 0 ≤ _), (by decide : 18 + 0 ≤ _)⟩)
    dsimp only [Pt.U, Pt.locs, Pt.cells, Pt.slots] at X122 l122 y122 z122 st122 hQ122
    subst l122 y122 z122
    obtain ⟨rfl, N122q, K122q⟩ := hQ122
    have N124 := Fr.app N120 N122q
    have q125 : (if ((p0_0 &&& (-5 : Int32)) &&& (4 : Int32)) = (0 : Int32) then (0 : Int32) else (1 : Int32)) = (0 : Int32) := if_pos (own_an _)
    obtain ⟨fs, hr, hrun, hended, hW, hsame⟩ := X122.leave (v := some (.int (1 : Int32))) (fun h => by rw [Bd.returns] at h; cases h)
    refine ⟨_, _, pre95 _ ?_, hrun, hended, _, _, rfl, ?_, ⟨_, rfl⟩, hW, hsame.mono (by decide) (by decide)⟩
    · show Steps p.tables e below (T90.setTop (mkF m 74 #[iv p0_0, iv p0_1, iv p0_2, iv p0_3, rv b1, rv b33, rv b50, rv b71, .unset] [(.int (1 : Int32)), (.int (((p0_0.toUInt32 >>> ((2 : Int32) &&& 31).toUInt32).toInt32) &&& (1 : Int32)))])) _
      refine XS.icmpYes X90.here hx rfl (pc0 := 74) (pc' := 81) rfl (hb hby at_74) rfl (feq hc74_94).2 (by decide) (by decide) ?_
      show Steps p.tables e below (T90.setTop (mkF m 81 #[iv p0_0, iv p0_1, iv p0_2, iv p0_3, rv b1, rv b33, rv b50, rv b71, .unset] [])) _
      refine XS.iconst X90.here hx rfl (hb hby at_81) ?_
      show Steps p.tables e below (T90.setTop (mkF m 82 #[iv p0_0, iv p0_1, iv p0_2, iv p0_3, rv b1, rv b33, rv b50, rv b71, .unset] [(.int (0 : Int32))])) _
      refine XS.istore X90.here hx rfl (hb hby at_82) rfl (l' := #[iv p0_0, iv p0_1, iv p0_2, iv p0_3, rv b1, rv b33, rv b50, rv b71, iv (0 : Int32)]) rfl ?_
      show Steps p.tables e below (T90.setTop (mkF m 84 #[iv p0_0, iv p0_1, iv p0_2, iv p0_3, rv b1, rv b33, rv b50, rv b71, iv (0 : Int32)] [])) _
      refine XS.aload X90.here hx rfl (hb hby at_84) rfl rfl ?_
      show Steps p.tables e below (T90.setTop (mkF m 86 #[iv p0_0, iv p0_1, iv p0_2, iv p0_3, rv b1, rv b33, rv b50, rv b71, iv (0 : Int32)] [(.ref b33)])) _
      refine st112.trans ?_
      rw [q116]
      show Steps p.tables e below (T112.setTop (mkF m 89 #[iv p0_0, iv p0_1, iv p0_2, iv p0_3, rv b1, rv b33, rv b50, rv b71, iv (0 : Int32)] [(.int (0 : Int32))])) _
      show Steps p.tables e below (T112.setTop (mkF m 89 #[iv p0_0, iv p0_1, iv p0_2, iv p0_3, rv b1, rv b33, rv b50, rv b71, iv (0 : Int32)] [(.int (0 : Int32))])) _
      refine XS.iload X112.here hx rfl (hb hby at_89) rfl ?_
      show Steps p.tables e below (T112.setTop (mkF m 91 #[iv p0_0, iv p0_1, iv p0_2, iv p0_3, rv b1, rv b33, rv b50, rv b71, iv (0 : Int32)] [(.int (0 : Int32)), (.int (0 : Int32))])) _
      refine XS.icmpNo X112.here hx rfl (hb hby at_91) rfl (teq (by decide : (0 : Int32) = (0 : Int32))).2 ?_
      show Steps p.tables e below (T112.setTop (mkF m 94 #[iv p0_0, iv p0_1, iv p0_2, iv p0_3, rv b1, rv b33, rv b50, rv b71, iv (0 : Int32)] [])) _
      refine XS.aload X112.here hx rfl (hb hby at_94) rfl rfl ?_
      show Steps p.tables e below (T112.setTop (mkF m 96 #[iv p0_0, iv p0_1, iv p0_2, iv p0_3, rv b1, rv b33, rv b50, rv b71, iv (0 : Int32)] [(.ref b50)])) _
      refine st118.trans ?_
      rw [q121]
      show Steps p.tables e below (T118.setTop (mkF m 99 #[iv p0_0, iv p0_1, iv p0_2, iv p0_3, rv b1, rv b33, rv b50, rv b71, iv (0 : Int32)] [(.int (1 : Int32))])) _
      show Steps p.tables e below (T118.setTop (mkF m 99 #[iv p0_0, iv p0_1, iv p0_2, iv p0_3, rv b1, rv b33, rv b50, rv b71, iv (0 : Int32)] [(.int (1 : Int32))])) _
      refine XS.ifNo X118.here hx rfl (hb hby at_99) rfl ((if0 _ _).trans (feq (by decide : ¬ ((1 : Int32) = (0 : Int32)))).1) ?_
      show Steps p.tables e below (T118.setTop (mkF m 102 #[iv p0_0, iv p0_1, iv p0_2, iv p0_3, rv b1, rv b33, rv b50, rv b71, iv (0 : Int32)] [])) _
      refine XS.aload X118.here hx rfl (hb hby at_102) rfl rfl ?_
      show Steps p.tables e below (T118.setTop (mkF m 104 #[iv p0_0, iv p0_1, iv p0_2, iv p0_3, rv b1, rv b33, rv b50, rv b71, iv (0 : Int32)] [(.ref b71)])) _
      refine st122.trans ?_
      rw [q125]
      show Steps p.tables e below (T122.setTop (mkF m 107 #[iv p0_0, iv p0_1, iv p0_2, iv p0_3, rv b1, rv b33, rv b50, rv b71, iv (0 : Int32)] [(.int (0 : Int32))])) _
      show Steps p.tables e below (T122.setTop (mkF m 107 #[iv p0_0, iv p0_1, iv p0_2, iv p0_3, rv b1, rv b33, rv b50, rv b71, iv (0 : Int32)] [(.int (0 : Int32))])) _
      refine XS.ifNo X122.here hx rfl (hb hby at_107) rfl ((if0 _ _).trans (teq (by decide : (0 : Int32) = (0 : Int32))).2) ?_
      show Steps p.tables e below (T122.setTop (mkF m 110 #[iv p0_0, iv p0_1, iv p0_2, iv p0_3, rv b1, rv b33, rv b50, rv b71, iv (0 : Int32)] [])) _
      refine XS.iconst X122.here hx rfl (hb hby at_110) ?_
      show Steps p.tables e below (T122.setTop (mkF m 111 #[iv p0_0, iv p0_1, iv p0_2, iv p0_3, rv b1, rv b33, rv b50, rv b71, iv (0 : Int32)] [(.int (1 : Int32))])) _
      refine XS.goto X122.here hx rfl (pc0 := 111) (pc' := 115) rfl (hb hby at_111) (by decide) (by decide) ?_
      show Steps p.tables e below (T122.setTop (mkF m 115 #[iv p0_0, iv p0_1, iv p0_2, iv p0_3, rv b1, rv b33, rv b50, rv b71, iv (0 : Int32)] [(.int (1 : Int32))])) _
      exact retN X122 hx (t := .boolean) Bd.returns (by simp) (hb hby at_115) hr
    · show Q_rm0 Z _ _ _ _ _ h0 n0 _ T122.heap _
      rw [K122q]
      exact ⟨rfl, N124, (K93)⟩
set_option maxRecDepth 65536 in
set_option maxHeartbeats 40000000 in
theorem comes_1 {Post : Tables → Env → Array Value → State → Outcome → State → Prop} (hpost : ∀ tb e args s v u, (limb_1_1.after args s (.returned v) u = true ∧ limb_1_2.after args s (.returned v) u = true ∧ True) → FrameEnd s (.returned v) u (Jvm.fieldLocs frame_1_writes args s ++ Jvm.arrayLocs frame_1_arrays args s ++ Jvm.staticLocs frame_1_statics s) 24 128 → Post tb e args s (.returned v) u) :
    ArmFor flags0 classFile x code maxLocals ret World_1 tables_1 room_1 Calls_1 rest_1 Pre_1 Post := by
  intro l hfl _ _ p e ha hc hk s m args below hf hA hF happ hP
  obtain ⟨hcalls, hrest, hpre⟩ := hP
  obtain ⟨-, -, -, hnamed, -, -, -, hat⟩ := (Spec.applies_iff hf).mp happ
  obtain ⟨hg, hn⟩ := and_e (Cond.before_iff.mp (show (Jvm.Cond.and given_1 narrow_1).before args s = true from hpre))
  obtain ⟨g1, g2⟩ := and_e hg
  obtain ⟨g3, g4⟩ := and_e g2
  obtain ⟨g5, g6⟩ := and_e g4
  obtain ⟨g7, g8⟩ := and_e g6
  obtain ⟨w0, w1, w2, w3, rfl⟩ : ∃ w0 w1 w2 w3 : Value, args = #[w0, w1, w2, w3] := by
    have hs : args.size = 4 := by simpa [Cond.value, given_1] using g1
    obtain ⟨L⟩ := args
    match L, hs with
    | [w0, w1, w2, w3], _ => exact ⟨w0, w1, w2, w3, rfl⟩
  have hw := fun d (hd : d ∈ tables_1) => atoms_spec (ws := Jvm.Cond.code x code maxLocals ret :: tables_1) hat d (List.mem_cons_of_mem _ hd)
  have hfit : Fit s := fun {y c} hc i hi => by
    obtain ⟨ha, rfl⟩ := Array.getElem?_eq_some_iff.mp hc
    have q := List.all_eq_true.mp ((Array.all_eq_true_iff_forall_mem.mp hF) _ (Array.getElem_mem ha)) i (List.mem_range.mpr hi)
    simpa [Array.getElem?_eq_getElem hi] using q
  obtain ⟨hsets, hown0⟩ := atoms_of _ (rest_1_c_eq ▸ (show rest_1_c.before _ s = true from hrest))
  have hr0 := Cond.before_iff.mp hown0
  obtain ⟨i0, ei0⟩ := is_v g3
  obtain rfl : w0 = (.int i0) := Option.some.inj ei0
  obtain ⟨i1, ei1⟩ := is_v g5
  obtain rfl : w1 = (.int i1) := Option.some.inj ei1
  obtain ⟨i2, ei2⟩ := is_v g7
  obtain rfl : w2 = (.int i2) := Option.some.inj ei2
  obtain ⟨i3, ei3⟩ := is_v g8
  obtain rfl : w3 = (.int i3) := Option.some.inj ei3
  obtain ⟨cs, ecs⟩ := is_v (Cond.before_iff.mp (hsets _ (List.mem_of_getElem? (i := 1) rfl)))
  have S_cs : Sta s s.heap "java/lang/String" "COMPACT_STRINGS" "Z" (.int cs) := Sta.start ecs (Or.inl (hsets _ (List.mem_of_getElem? (i := 0) rfl)))
  have hcs := own_nz (Cond.before_iff.mp (hsets _ (List.mem_of_getElem? (i := 2) rfl))) ecs
  obtain ⟨n, o, h1, h2, h3, _, L, rfl, ⟨rfl, N, -⟩, hq⟩ := rm0 l s _ hw tables_1 i0 i1 i2 i3 cs s.heap s.heap.size (Nat.le_refl _) (Old.start s) S_cs hcs p e ha hc hk s m _ below hf ((Spec.applies_iff_loose hf).mp happ).1 ⟨rfl, State.Warmed39.refl s, rfl⟩ trivial
  refine ⟨n, _, h1, h2, h3, hpost _ _ _ _ _ _ ⟨Cond.after_iff.mpr rfl, Cond.after_iff.mpr (eq_i res_at (Term.int_eval (1)) rfl), trivial⟩ ⟨hq.1, hq.2.1, (hq.2.2.sift fun y hy => Or.inr (N y hy)).mono (by decide) (by decide)⟩⟩
theorem main_1_1 : Claimed_1_1 := comes_1 fun _ _ _ _ _ _ h hF => ⟨h.1, hF⟩
theorem main_1_2 : Claimed_1_2 := comes_1 fun _ _ _ _ _ _ h hF => ⟨h.2.1, hF⟩
end Jvm.Pilot.@@N@@
namespace Jvm.Pilot.@@N@@
open Jvm Jvm.ClassFile Sem Op Lib Jvm.Free Jvm.Stand Jvm.Pilot.@@N@@.Jvm.D
/-! MADE BY PROGRAM (witnessworld.py) out of the Statement's table words and the real class files: 20 classes; the members and pool entries that the words name. The judged class is class 1, her method 1. -/
namespace start1
open Jvm.ClassFile
def u (s : String) : CpInfo := .utf8 (stringToUtf16 s)
/-- a pool by its gaps: so many unusable entries, then the entry; so many at the end -/
def gap : Nat → List CpInfo → List CpInfo
  | 0, r => r
  | n + 1, r => .unusable :: gap n r
def poolList (es : List (Nat × CpInfo)) (last : Nat) : List CpInfo := es.foldr (fun e r => gap e.1 (e.2 :: r)) (gap last [])
def pool (es : List (Nat × CpInfo)) (last : Nat) : Array CpInfo := ⟨poolList es last⟩
def fileOf (pool : Array CpInfo) (this : Nat) (attrs : Array Attribute := #[]) (ms : Array MethodInfo := #[]) (fl : Nat := 33) (sup : Nat := 0) (ifs : Array Nat := #[]) (fds : Array FieldInfo := #[]) : ClassFile where
  minorVersion := 0
  majorVersion := 65
  constantPool := pool
  accessFlags := fl
  thisClass := this
  superClass := sup
  interfaces := ifs
  fields := fds
  methods := ms
  attributes := attrs
def plain (name : String) (sup : Option ClassId) : Class where
  name := name
  kind := .ordinary
  loader := none
  accessFlags := 33
  super := sup
  interfaces := #[]
  cf := none
  fields := #[]
  methods := #[]
  instanceTypes := #[]
  staticTypes := #[]
  resolved := #[]
  callSites := []
  init := .initialized
  statics := none
  mirror := none

def pool0 : Array CpInfo := pool [(5, u "<init>"), (0, u "()V"), (1, .class_ 10), (1, u "java/lang/Object")] 113

def k0c0 : Code := { maxStack := 0, maxLocals := 1, code := object_method_1_code, exceptionTable := #[], attributes := #[] }
def k0m0 : Method := { name := "<init>", desc := "()V", sig := { parameters := [], returnType := none }, accessFlags := 1, code := some k0c0 }
/-- java/lang/Object -/
def k0 : Class := { plain "java/lang/Object" none with
  accessFlags := 33
  interfaces := #[]
  cf := some (fileOf pool0 8 #[] #[{ accessFlags := 1, nameIndex := 5, descriptorIndex := 6, attributes := #[] }] 33 0 #[] #[])
  fields := #[]
  methods := #[k0m0]
  instanceTypes := #[]
  staticTypes := #[]
  resolved := Array.replicate 124 none
  statics := none }

def pool1 : Array CpInfo := pool [(2, .class_ 4), (1, u "java/lang/Object"), (0, u "<init>"), (0, u "()V"), (0, .class_ 8), (0, u "java/lang/String"), (0, .methodref 7 10), (0, .nameAndType 5 11), (0, u "([C)V"), (0, .class_ 13), (0, u "com/example/topiq/topiq/protocol/TopicRoute$QueueData"), (0, .methodref 12 15), (0, .nameAndType 5 16), (0, u "(Ljava/lang/String;III)V"), (0, .methodref 12 18), (0, .nameAndType 19 20), (0, u "isReadable"), (0, u "()Z"), (0, .class_ 22), (0, u "com/example/topiq/topiq/protocol/QueueDataIsReadablePinLaw"), (2, u "law"), (0, u "(IIII)Z")] 7

def k1m0 : Method := { name := "<init>", desc := "()V", sig := { parameters := [], returnType := none }, accessFlags := 1, code := none }
def k1c1 : Code := { maxStack := 7, maxLocals := 9, code := code, exceptionTable := #[], attributes := #[] }
def k1m1 : Method := { name := "law", desc := "(IIII)Z", sig := { parameters := [.int, .int, .int, .int], returnType := some .boolean }, accessFlags := 9, code := some k1c1 }
/-- com/example/topiq/topiq/protocol/QueueDataIsReadablePinLaw -/
def k1 : Class := { plain "com/example/topiq/topiq/protocol/QueueDataIsReadablePinLaw" (some 0) with
  accessFlags := 49
  interfaces := #[]
  cf := some (fileOf pool1 21 #[] #[{ accessFlags := 1, nameIndex := 5, descriptorIndex := 6, attributes := #[] }, { accessFlags := 9, nameIndex := 25, descriptorIndex := 26, attributes := #[] }] 49 2 #[] #[])
  fields := #[]
  methods := #[k1m0, k1m1]
  instanceTypes := #[]
  staticTypes := #[]
  resolved := Array.replicate 34 none
  statics := none }

def pool2 : Array CpInfo := pool [(1, .class_ 2), (0, u "java/io/Serializable"), (0, .class_ 4), (0, u "java/lang/Object")] 2

/-- java/io/Serializable -/
def k2 : Class := { plain "java/io/Serializable" (some 0) with
  accessFlags := 1537
  interfaces := #[]
  cf := some (fileOf pool2 1 #[] #[] 1537 3 #[] #[])
  fields := #[]
  methods := #[]
  instanceTypes := #[]
  staticTypes := #[]
  resolved := Array.replicate 7 none
  statics := none }

def pool3 : Array CpInfo := pool [(1, .class_ 2), (0, u "java/lang/Comparable"), (0, .class_ 4), (0, u "java/lang/Object")] 7

/-- java/lang/Comparable -/
def k3 : Class := { plain "java/lang/Comparable" (some 0) with
  accessFlags := 1537
  interfaces := #[]
  cf := some (fileOf pool3 1 #[] #[] 1537 3 #[] #[])
  fields := #[]
  methods := #[]
  instanceTypes := #[]
  staticTypes := #[]
  resolved := Array.replicate 12 none
  statics := none }

def pool4 : Array CpInfo := pool [(2, .class_ 4), (1, u "java/lang/CharSequence"), (42, .class_ 48), (0, u "java/lang/CharSequence$1CodePointIterator"), (10, .class_ 60), (0, u "java/lang/CharSequence$1CharIterator"), (5, .class_ 67), (0, u "java/lang/Object")] 63

/-- java/lang/CharSequence -/
def k4 : Class := { plain "java/lang/CharSequence" (some 0) with
  accessFlags := 1537
  interfaces := #[]
  cf := some (fileOf pool4 2 #[.nestMembers #[47, 59]] #[] 1537 66 #[] #[])
  fields := #[]
  methods := #[]
  instanceTypes := #[]
  staticTypes := #[]
  resolved := Array.replicate 131 none
  statics := none }

def pool5 : Array CpInfo := pool [(1, .class_ 2), (0, u "java/lang/constant/Constable"), (0, .class_ 4), (0, u "java/lang/Object")] 6

/-- java/lang/constant/Constable -/
def k5 : Class := { plain "java/lang/constant/Constable" (some 0) with
  accessFlags := 1537
  interfaces := #[]
  cf := some (fileOf pool5 1 #[] #[] 1537 3 #[] #[])
  fields := #[]
  methods := #[]
  instanceTypes := #[]
  staticTypes := #[]
  resolved := Array.replicate 11 none
  statics := none }

def pool6 : Array CpInfo := pool [(1, .class_ 2), (0, u "java/lang/constant/ConstantDesc"), (0, .class_ 4), (0, u "java/lang/Object")] 32

/-- java/lang/constant/ConstantDesc -/
def k6 : Class := { plain "java/lang/constant/ConstantDesc" (some 0) with
  accessFlags := 1537
  interfaces := #[]
  cf := some (fileOf pool6 1 #[] #[] 1537 3 #[] #[])
  fields := #[]
  methods := #[]
  instanceTypes := #[]
  staticTypes := #[]
  resolved := Array.replicate 37 none
  statics := none }

def pool7 : Array CpInfo := pool [(1, .methodref 2 3), (0, .class_ 4), (0, .nameAndType 5 6), (0, u "java/lang/Object"), (0, u "<init>"), (0, u "()V"), (2, .fieldref 10 11), (0, .class_ 12), (0, .nameAndType 13 14), (0, u "java/lang/String"), (0, u "value"), (0, u "[B"), (0, .fieldref 10 16), (0, .nameAndType 17 18), (0, u "coder"), (0, u "B"), (2, u "hash"), (0, u "I"), (2, u "hashIsZero"), (0, u "Z"), (0, .methodref 10 28), (0, .nameAndType 5 29), (0, u "([CIILjava/lang/Void;)V"), (8, .fieldref 10 39), (0, .nameAndType 40 26), (0, u "COMPACT_STRINGS"), (1, .class_ 44), (1, u "java/lang/StringUTF16"), (0, u "compress"), (1, .methodref 42 48), (0, .nameAndType 49 50), (0, u "coderFromArrayLen"), (0, u "([BI)B"), (126, .methodref 42 178), (0, .nameAndType 45 179), (0, u "([CII)[B"), (395, .class_ 576), (0, u "java/lang/CharSequence"), (22, u "CASE_INSENSITIVE_ORDER"), (0, u "Ljava/util/Comparator;"), (409, u "([C)V"), (90, u "serialPersistentFields"), (0, u "[Ljava/io/ObjectStreamField;"), (0, .class_ 1104), (0, u "java/lang/String$CaseInsensitiveComparator"), (1, .class_ 1107), (0, u "java/io/Serializable"), (0, .class_ 1109), (0, u "java/lang/Comparable"), (0, .class_ 1111), (0, u "java/lang/constant/Constable"), (0, .class_ 1113), (0, u "java/lang/constant/ConstantDesc"), (2, u "serialVersionUID"), (0, u "J"), (3, u "REPL"), (0, u "C"), (2, u "LATIN1"), (1, u "UTF16")] 323

def k7m0 : Method := { name := "<init>", desc := "()V", sig := { parameters := [], returnType := none }, accessFlags := 1, code := none }
def k7c1 : Code := { maxStack := 5, maxLocals := 2, code := jdk_42_method_3_code, exceptionTable := #[], attributes := #[] }
def k7m1 : Method := { name := "<init>", desc := "([C)V", sig := { parameters := [(.array .char)], returnType := none }, accessFlags := 1, code := some k7c1 }
def k7c2 : Code := { maxStack := 4, maxLocals := 6, code := jdk_42_method_149_code, exceptionTable := #[], attributes := #[] }
def k7m2 : Method := { name := "<init>", desc := "([CIILjava/lang/Void;)V", sig := { parameters := [(.array .char), .int, .int, (.object "java/lang/Void")], returnType := none }, accessFlags := 2, code := some k7c2 }
/-- java/lang/String -/
def k7 : Class := { plain "java/lang/String" (some 0) with
  accessFlags := 49
  interfaces := #[2, 3, 4, 5, 6]
  cf := some (fileOf pool7 10 #[.nestMembers #[1103]] #[{ accessFlags := 1, nameIndex := 5, descriptorIndex := 6, attributes := #[] }, { accessFlags := 1, nameIndex := 5, descriptorIndex := 1010, attributes := #[] }, { accessFlags := 2, nameIndex := 5, descriptorIndex := 29, attributes := #[] }] 49 2 #[1106, 1108, 575, 1110, 1112] #[{ accessFlags := 18, nameIndex := 13, descriptorIndex := 14, attributes := #[] }, { accessFlags := 18, nameIndex := 17, descriptorIndex := 18, attributes := #[] }, { accessFlags := 2, nameIndex := 21, descriptorIndex := 22, attributes := #[] }, { accessFlags := 2, nameIndex := 25, descriptorIndex := 26, attributes := #[] }, { accessFlags := 26, nameIndex := 1116, descriptorIndex := 1117, attributes := #[] }, { accessFlags := 24, nameIndex := 40, descriptorIndex := 26, attributes := #[] }, { accessFlags := 26, nameIndex := 1101, descriptorIndex := 1102, attributes := #[] }, { accessFlags := 26, nameIndex := 1121, descriptorIndex := 1122, attributes := #[] }, { accessFlags := 25, nameIndex := 599, descriptorIndex := 600, attributes := #[] }, { accessFlags := 24, nameIndex := 1125, descriptorIndex := 18, attributes := #[] }, { accessFlags := 24, nameIndex := 1127, descriptorIndex := 18, attributes := #[] }])
  fields := #[{ name := "value", type := (.array .byte), accessFlags := 18, slot := 0, constantValue := 0 }, { name := "coder", type := .byte, accessFlags := 18, slot := 1, constantValue := 0 }, { name := "hash", type := .int, accessFlags := 2, slot := 2, constantValue := 0 }, { name := "hashIsZero", type := .boolean, accessFlags := 2, slot := 3, constantValue := 0 }, { name := "serialVersionUID", type := .long, accessFlags := 26, slot := 0, constantValue := 0 }, { name := "COMPACT_STRINGS", type := .boolean, accessFlags := 24, slot := 1, constantValue := 0 }, { name := "serialPersistentFields", type := (.array (.object "java/io/ObjectStreamField")), accessFlags := 26, slot := 2, constantValue := 0 }, { name := "REPL", type := .char, accessFlags := 26, slot := 3, constantValue := 0 }, { name := "CASE_INSENSITIVE_ORDER", type := (.object "java/util/Comparator"), accessFlags := 25, slot := 4, constantValue := 0 }, { name := "LATIN1", type := .byte, accessFlags := 24, slot := 5, constantValue := 0 }, { name := "UTF16", type := .byte, accessFlags := 24, slot := 6, constantValue := 0 }]
  methods := #[k7m0, k7m1, k7m2]
  instanceTypes := #[(.array .byte), .byte, .int, .boolean]
  staticTypes := #[.long, .boolean, (.array (.object "java/io/ObjectStreamField")), .char, (.object "java/util/Comparator"), .byte, .byte]
  resolved := Array.replicate 1451 none
  statics := some 0 }

def pool8 : Array CpInfo := pool [(6, .class_ 8), (1, u "java/lang/Object"), (0, u "<init>"), (0, u "()V"), (1, .class_ 14), (1, u "java/lang/StringUTF16"), (31, u "$assertionsDisabled"), (0, u "Z"), (13, u "HI_BYTE_SHIFT"), (0, u "I"), (2, u "LO_BYTE_SHIFT"), (49, .methodref 12 116), (0, .nameAndType 117 118), (0, u "compress"), (0, u "([CI[BII)I"), (3, u "([CII)[B"), (138, u "coderFromArrayLen"), (0, u "([BI)B"), (106, .class_ 371), (1, u "java/lang/StringUTF16$LinesSpliterator"), (58, u "MAX_LENGTH"), (196, .class_ 628), (0, u "java/lang/StringUTF16$CodePointsSpliterator"), (0, .class_ 630), (0, u "java/lang/StringUTF16$CharsSpliterator")] 4

def k8m0 : Method := { name := "<init>", desc := "()V", sig := { parameters := [], returnType := none }, accessFlags := 0, code := none }
def k8c1 : Code := { maxStack := 2, maxLocals := 2, code := jdk_52_method_15_code, exceptionTable := #[], attributes := #[] }
def k8m1 : Method := { name := "coderFromArrayLen", desc := "([BI)B", sig := { parameters := [(.array .byte), .int], returnType := some .byte }, accessFlags := 8, code := some k8c1 }
def k8c2 : Code := { maxStack := 5, maxLocals := 6, code := jdk_52_method_16_code, exceptionTable := #[], attributes := #[] }
def k8m2 : Method := { name := "compress", desc := "([CII)[B", sig := { parameters := [(.array .char), .int, .int], returnType := some (.array .byte) }, accessFlags := 9, code := some k8c2 }
def k8c3 : Code := { maxStack := 3, maxLocals := 7, code := jdk_52_method_21_code, exceptionTable := #[], attributes := #[] }
def k8m3 : Method := { name := "compress", desc := "([CI[BII)I", sig := { parameters := [(.array .char), .int, (.array .byte), .int, .int], returnType := some .int }, accessFlags := 9, code := some k8c3 }
/-- java/lang/StringUTF16 -/
def k8 : Class := { plain "java/lang/StringUTF16" (some 0) with
  accessFlags := 48
  interfaces := #[]
  cf := some (fileOf pool8 12 #[.nestMembers #[627, 629, 369]] #[{ accessFlags := 0, nameIndex := 9, descriptorIndex := 10, attributes := #[] }, { accessFlags := 8, nameIndex := 261, descriptorIndex := 262, attributes := #[] }, { accessFlags := 9, nameIndex := 117, descriptorIndex := 122, attributes := #[] }, { accessFlags := 9, nameIndex := 117, descriptorIndex := 118, attributes := #[] }] 48 6 #[] #[{ accessFlags := 26, nameIndex := 61, descriptorIndex := 62, attributes := #[] }, { accessFlags := 26, nameIndex := 65, descriptorIndex := 62, attributes := #[] }, { accessFlags := 24, nameIndex := 430, descriptorIndex := 62, attributes := #[] }, { accessFlags := 4120, nameIndex := 46, descriptorIndex := 47, attributes := #[] }])
  fields := #[{ name := "HI_BYTE_SHIFT", type := .int, accessFlags := 26, slot := 0, constantValue := 0 }, { name := "LO_BYTE_SHIFT", type := .int, accessFlags := 26, slot := 1, constantValue := 0 }, { name := "MAX_LENGTH", type := .int, accessFlags := 24, slot := 2, constantValue := 0 }, { name := "$assertionsDisabled", type := .boolean, accessFlags := 4120, slot := 3, constantValue := 0 }]
  methods := #[k8m0, k8m1, k8m2, k8m3]
  instanceTypes := #[]
  staticTypes := #[.int, .int, .int, .boolean]
  resolved := Array.replicate 635 none
  statics := none }

def pool9 : Array CpInfo := pool [(1, .class_ 2), (0, u "com/example/topiq/topiq/protocol/TopicRoute"), (0, .methodref 4 5), (0, .class_ 6), (0, .nameAndType 7 8), (0, u "java/lang/Object"), (0, u "<init>"), (0, u "()V"), (0, .fieldref 10 11), (0, .class_ 12), (0, .nameAndType 13 14), (0, u "com/example/topiq/topiq/protocol/TopicRoute$QueueData"), (0, u "brokerName"), (0, u "Ljava/lang/String;"), (0, .fieldref 10 16), (0, .nameAndType 17 18), (0, u "readQueueNums"), (0, u "I"), (0, .fieldref 10 20), (0, .nameAndType 21 18), (0, u "writeQueueNums"), (0, .fieldref 10 23), (0, .nameAndType 24 18), (0, u "perm"), (14, u "(Ljava/lang/String;III)V"), (25, u "()Z"), (1, u "isReadable")] 5

def k9c0 : Code := { maxStack := 2, maxLocals := 5, code := prog_50_method_1_code, exceptionTable := #[], attributes := #[] }
def k9m0 : Method := { name := "<init>", desc := "(Ljava/lang/String;III)V", sig := { parameters := [(.object "java/lang/String"), .int, .int, .int], returnType := none }, accessFlags := 1, code := some k9c0 }
def k9c1 : Code := { maxStack := 2, maxLocals := 1, code := prog_50_method_9_code, exceptionTable := #[], attributes := #[] }
def k9m1 : Method := { name := "isReadable", desc := "()Z", sig := { parameters := [], returnType := some .boolean }, accessFlags := 1, code := some k9c1 }
/-- com/example/topiq/topiq/protocol/TopicRoute$QueueData -/
def k9 : Class := { plain "com/example/topiq/topiq/protocol/TopicRoute$QueueData" (some 0) with
  accessFlags := 33
  interfaces := #[]
  cf := some (fileOf pool9 10 #[.nestHost 1] #[{ accessFlags := 1, nameIndex := 7, descriptorIndex := 39, attributes := #[] }, { accessFlags := 1, nameIndex := 67, descriptorIndex := 65, attributes := #[] }] 33 4 #[] #[{ accessFlags := 18, nameIndex := 13, descriptorIndex := 14, attributes := #[] }, { accessFlags := 18, nameIndex := 17, descriptorIndex := 18, attributes := #[] }, { accessFlags := 18, nameIndex := 21, descriptorIndex := 18, attributes := #[] }, { accessFlags := 18, nameIndex := 24, descriptorIndex := 18, attributes := #[] }])
  fields := #[{ name := "brokerName", type := (.object "java/lang/String"), accessFlags := 18, slot := 0, constantValue := 0 }, { name := "readQueueNums", type := .int, accessFlags := 18, slot := 1, constantValue := 0 }, { name := "writeQueueNums", type := .int, accessFlags := 18, slot := 2, constantValue := 0 }, { name := "perm", type := .int, accessFlags := 18, slot := 3, constantValue := 0 }]
  methods := #[k9m0, k9m1]
  instanceTypes := #[(.object "java/lang/String"), .int, .int, .int]
  staticTypes := #[]
  resolved := Array.replicate 73 none
  statics := none }

def pool10 : Array CpInfo := pool [(4, .class_ 6), (1, u "java/lang/Object"), (0, u "<init>"), (0, u "()V"), (5, .class_ 16), (1, u "java/lang/StringLatin1"), (104, u "$assertionsDisabled"), (0, u "Z"), (98, .class_ 223), (1, u "java/lang/StringLatin1$LinesSpliterator"), (166, .class_ 391), (0, u "java/lang/StringLatin1$CharsSpliterator")] 3

def k10m0 : Method := { name := "<init>", desc := "()V", sig := { parameters := [], returnType := none }, accessFlags := 0, code := none }
/-- java/lang/StringLatin1 -/
def k10 : Class := { plain "java/lang/StringLatin1" (some 0) with
  accessFlags := 48
  interfaces := #[]
  cf := some (fileOf pool10 14 #[.nestMembers #[390, 221]] #[{ accessFlags := 0, nameIndex := 7, descriptorIndex := 8, attributes := #[] }] 48 4 #[] #[{ accessFlags := 4120, nameIndex := 121, descriptorIndex := 122, attributes := #[] }])
  fields := #[{ name := "$assertionsDisabled", type := .boolean, accessFlags := 4120, slot := 0, constantValue := 0 }]
  methods := #[k10m0]
  instanceTypes := #[]
  staticTypes := #[.boolean]
  resolved := Array.replicate 395 none
  statics := none }

def pool11 : Array CpInfo := pool [(2, .class_ 4), (1, u "java/lang/Object"), (0, u "<init>"), (0, u "()V"), (17, .class_ 26), (1, u "jdk/internal/util/Preconditions"), (28, .class_ 56), (0, u "jdk/internal/util/Preconditions$4"), (57, .class_ 115), (0, u "jdk/internal/util/Preconditions$1"), (7, u "SIOOBE_FORMATTER"), (0, u "Ljava/util/function/BiFunction;"), (0, .class_ 126), (0, u "jdk/internal/util/Preconditions$2"), (3, u "AIOOBE_FORMATTER"), (0, .class_ 132), (0, u "jdk/internal/util/Preconditions$3"), (3, u "IOOBE_FORMATTER")] 57

def k11m0 : Method := { name := "<init>", desc := "()V", sig := { parameters := [], returnType := none }, accessFlags := 1, code := none }
/-- jdk/internal/util/Preconditions -/
def k11 : Class := { plain "jdk/internal/util/Preconditions" (some 0) with
  accessFlags := 33
  interfaces := #[]
  cf := some (fileOf pool11 24 #[.nestMembers #[55, 131, 125, 114]] #[{ accessFlags := 1, nameIndex := 5, descriptorIndex := 6, attributes := #[] }] 33 2 #[] #[{ accessFlags := 25, nameIndex := 123, descriptorIndex := 124, attributes := #[] }, { accessFlags := 25, nameIndex := 130, descriptorIndex := 124, attributes := #[] }, { accessFlags := 25, nameIndex := 136, descriptorIndex := 124, attributes := #[] }])
  fields := #[{ name := "SIOOBE_FORMATTER", type := (.object "java/util/function/BiFunction"), accessFlags := 25, slot := 0, constantValue := 0 }, { name := "AIOOBE_FORMATTER", type := (.object "java/util/function/BiFunction"), accessFlags := 25, slot := 1, constantValue := 0 }, { name := "IOOBE_FORMATTER", type := (.object "java/util/function/BiFunction"), accessFlags := 25, slot := 2, constantValue := 0 }]
  methods := #[k11m0]
  instanceTypes := #[]
  staticTypes := #[(.object "java/util/function/BiFunction"), (.object "java/util/function/BiFunction"), (.object "java/util/function/BiFunction")]
  resolved := Array.replicate 194 none
  statics := some 1 }

def pool12 : Array CpInfo := pool [(9, u "<init>"), (6, .class_ 18), (1, u "java/lang/Object"), (0, u "()V"), (1, .class_ 23), (1, u "jdk/internal/util/ArraysSupport"), (0, u "LOG2_ARRAY_LONG_INDEX_SCALE"), (0, u "I"), (2, u "U"), (0, u "Ljdk/internal/misc/Unsafe;"), (8, u "BIG_ENDIAN"), (0, u "Z"), (8, u "LOG2_BYTE_BIT_SIZE"), (4, u "LOG2_ARRAY_INT_INDEX_SCALE"), (54, u "JLA"), (0, u "Ljdk/internal/access/JavaLangAccess;"), (11, u "LOG2_ARRAY_BOOLEAN_INDEX_SCALE"), (9, u "LOG2_ARRAY_BYTE_INDEX_SCALE"), (5, u "LOG2_ARRAY_CHAR_INDEX_SCALE"), (5, u "LOG2_ARRAY_SHORT_INDEX_SCALE"), (18, u "LOG2_ARRAY_FLOAT_INDEX_SCALE"), (24, u "LOG2_ARRAY_DOUBLE_INDEX_SCALE"), (89, u "T_BOOLEAN"), (2, u "T_CHAR"), (1, u "T_FLOAT"), (1, u "T_DOUBLE"), (1, u "T_BYTE"), (1, u "T_SHORT"), (1, u "T_INT"), (1, u "T_LONG"), (1, u "SOFT_MAX_ARRAY_LENGTH")] 83

def k12m0 : Method := { name := "<init>", desc := "()V", sig := { parameters := [], returnType := none }, accessFlags := 2, code := none }
/-- jdk/internal/util/ArraysSupport -/
def k12 : Class := { plain "jdk/internal/util/ArraysSupport" (some 0) with
  accessFlags := 33
  interfaces := #[]
  cf := some (fileOf pool12 21 #[] #[{ accessFlags := 2, nameIndex := 9, descriptorIndex := 19, attributes := #[] }] 33 16 #[] #[{ accessFlags := 24, nameIndex := 28, descriptorIndex := 29, attributes := #[] }, { accessFlags := 26, nameIndex := 38, descriptorIndex := 39, attributes := #[] }, { accessFlags := 25, nameIndex := 121, descriptorIndex := 25, attributes := #[] }, { accessFlags := 25, nameIndex := 131, descriptorIndex := 25, attributes := #[] }, { accessFlags := 25, nameIndex := 137, descriptorIndex := 25, attributes := #[] }, { accessFlags := 25, nameIndex := 143, descriptorIndex := 25, attributes := #[] }, { accessFlags := 25, nameIndex := 53, descriptorIndex := 25, attributes := #[] }, { accessFlags := 25, nameIndex := 24, descriptorIndex := 25, attributes := #[] }, { accessFlags := 25, nameIndex := 162, descriptorIndex := 25, attributes := #[] }, { accessFlags := 25, nameIndex := 187, descriptorIndex := 25, attributes := #[] }, { accessFlags := 26, nameIndex := 48, descriptorIndex := 25, attributes := #[] }, { accessFlags := 25, nameIndex := 277, descriptorIndex := 25, attributes := #[] }, { accessFlags := 25, nameIndex := 280, descriptorIndex := 25, attributes := #[] }, { accessFlags := 25, nameIndex := 282, descriptorIndex := 25, attributes := #[] }, { accessFlags := 25, nameIndex := 284, descriptorIndex := 25, attributes := #[] }, { accessFlags := 25, nameIndex := 286, descriptorIndex := 25, attributes := #[] }, { accessFlags := 25, nameIndex := 288, descriptorIndex := 25, attributes := #[] }, { accessFlags := 25, nameIndex := 290, descriptorIndex := 25, attributes := #[] }, { accessFlags := 25, nameIndex := 292, descriptorIndex := 25, attributes := #[] }, { accessFlags := 26, nameIndex := 108, descriptorIndex := 109, attributes := #[] }, { accessFlags := 25, nameIndex := 294, descriptorIndex := 25, attributes := #[] }])
  fields := #[{ name := "U", type := (.object "jdk/internal/misc/Unsafe"), accessFlags := 24, slot := 0, constantValue := 0 }, { name := "BIG_ENDIAN", type := .boolean, accessFlags := 26, slot := 1, constantValue := 0 }, { name := "LOG2_ARRAY_BOOLEAN_INDEX_SCALE", type := .int, accessFlags := 25, slot := 2, constantValue := 0 }, { name := "LOG2_ARRAY_BYTE_INDEX_SCALE", type := .int, accessFlags := 25, slot := 3, constantValue := 0 }, { name := "LOG2_ARRAY_CHAR_INDEX_SCALE", type := .int, accessFlags := 25, slot := 4, constantValue := 0 }, { name := "LOG2_ARRAY_SHORT_INDEX_SCALE", type := .int, accessFlags := 25, slot := 5, constantValue := 0 }, { name := "LOG2_ARRAY_INT_INDEX_SCALE", type := .int, accessFlags := 25, slot := 6, constantValue := 0 }, { name := "LOG2_ARRAY_LONG_INDEX_SCALE", type := .int, accessFlags := 25, slot := 7, constantValue := 0 }, { name := "LOG2_ARRAY_FLOAT_INDEX_SCALE", type := .int, accessFlags := 25, slot := 8, constantValue := 0 }, { name := "LOG2_ARRAY_DOUBLE_INDEX_SCALE", type := .int, accessFlags := 25, slot := 9, constantValue := 0 }, { name := "LOG2_BYTE_BIT_SIZE", type := .int, accessFlags := 26, slot := 10, constantValue := 0 }, { name := "T_BOOLEAN", type := .int, accessFlags := 25, slot := 11, constantValue := 0 }, { name := "T_CHAR", type := .int, accessFlags := 25, slot := 12, constantValue := 0 }, { name := "T_FLOAT", type := .int, accessFlags := 25, slot := 13, constantValue := 0 }, { name := "T_DOUBLE", type := .int, accessFlags := 25, slot := 14, constantValue := 0 }, { name := "T_BYTE", type := .int, accessFlags := 25, slot := 15, constantValue := 0 }, { name := "T_SHORT", type := .int, accessFlags := 25, slot := 16, constantValue := 0 }, { name := "T_INT", type := .int, accessFlags := 25, slot := 17, constantValue := 0 }, { name := "T_LONG", type := .int, accessFlags := 25, slot := 18, constantValue := 0 }, { name := "JLA", type := (.object "jdk/internal/access/JavaLangAccess"), accessFlags := 26, slot := 19, constantValue := 0 }, { name := "SOFT_MAX_ARRAY_LENGTH", type := .int, accessFlags := 25, slot := 20, constantValue := 0 }]
  methods := #[k12m0]
  instanceTypes := #[]
  staticTypes := #[(.object "jdk/internal/misc/Unsafe"), .boolean, .int, .int, .int, .int, .int, .int, .int, .int, .int, .int, .int, .int, .int, .int, .int, .int, .int, (.object "jdk/internal/access/JavaLangAccess"), .int]
  resolved := Array.replicate 378 none
  statics := none }

def pool13 : Array CpInfo := pool [(1, u "java/lang/Cloneable"), (0, .class_ 1), (0, u "java/lang/Object"), (0, .class_ 3)] 3

/-- java/lang/Cloneable -/
def k13 : Class := { plain "java/lang/Cloneable" (some 0) with
  accessFlags := 1537
  interfaces := #[]
  cf := some (fileOf pool13 2 #[] #[] 1537 4 #[] #[])
  fields := #[]
  methods := #[]
  instanceTypes := #[]
  staticTypes := #[]
  resolved := Array.replicate 8 none
  statics := none }

/-- the primitive byte -/
def k14 : Class := { plain "byte" none with kind := .primitive 'B', accessFlags := 0x411 }
/-- [B -/
def k15 : Class := { plain "[B" (some 0) with kind := .array 14 .byte, interfaces := #[13, 2], accessFlags := 1041 }

/-- the primitive char -/
def k16 : Class := { plain "char" none with kind := .primitive 'C', accessFlags := 0x411 }
/-- [C -/
def k17 : Class := { plain "[C" (some 0) with kind := .array 16 .char, interfaces := #[13, 2], accessFlags := 1041 }

/-- the primitive int -/
def k18 : Class := { plain "int" none with kind := .primitive 'I', accessFlags := 0x411 }
/-- [I -/
def k19 : Class := { plain "[I" (some 0) with kind := .array 18 .int, interfaces := #[13, 2], accessFlags := 1041 }

def heap : Heap := #[{ cls := 7, slots := #[.long 0, .int 1, .null, .int 0, .null, .int 0, .int 0], vm := .statics 7 },
  { cls := 11, slots := #[.null, .null, .null], vm := .statics 11 }]
def classes : Array Class := #[k0, k1, k2, k3, k4, k5, k6, k7, k8, k9, k10, k11, k12, k13, k14, k15, k16, k17, k18, k19]
def interned : List (Array UInt16 × Addr) := []
def slotsUsed : Nat := 10
def theMethod : MethodId := ⟨1, 1⟩
def args0 : Array Value := #[.int 2, .int 5, .int 1, .int 65]
def aboutOver (below : List Frame) : State where
  vm := { classes := classes, interned := interned.toArray }
  heap := heap
  slotsUsed := slotsUsed
  threads := #[{ frames := .invoking theMethod args0 :: below }]
def below0 : List Frame := [.native { method := ⟨0, 0⟩, args := #[] }]
def about1 : State := aboutOver below0
def p0 : Program := .bare "" "" ""
def e0 : Env := launch0.env 0 0 0
theorem w_frames : about1.frames = Frame.invoking theMethod args0 :: below0 := rfl
set_option maxRecDepth 65536 in
theorem w_args : argsFit about1.vm theMethod args0 = true := by decide +kernel
set_option maxRecDepth 65536 in
theorem w_heap : heapFits about1 = true := by decide +kernel
set_option maxRecDepth 65536 in
theorem w_runnable : about1.curStatus? = some .runnable := by decide +kernel
set_option maxRecDepth 65536 in
theorem w_alone : about1.alone = true := by decide +kernel
set_option maxRecDepth 65536 in
theorem w_named : about1.methodNamed? x = some theMethod := by decide +kernel
set_option maxRecDepth 65536 in
theorem w_hears : about1.hears theMethod below0 = true := by decide +kernel
set_option maxRecDepth 65536 in
theorem w_ripe : about1.ripe theMethod args0 below0 = true := by decide +kernel
theorem w_running : about1.status = .running := rfl
set_option maxRecDepth 65536 in
theorem w_room : about1.hasRoom e0.platform room_1 = true :=
  launch0.hasRoom_least _ room_1 (by decide +kernel) (by decide +kernel) (by decide +kernel) (by decide +kernel) (by decide +kernel) (by decide +kernel)
theorem allAtoms_all (ts : List Jvm.Cond) (a : Array Jvm.Value) (st : Jvm.State) : (allAtoms ts).before a st = ts.all (fun c => c.before a st) := by
  induction ts with
  | nil => rfl
  | cons c t ih =>
    show (Jvm.Cond.and c (allAtoms t)).before a st = _
    rw [Jvm.Cond.before_and, ih, List.all_cons]
def words1 : List Jvm.Cond := Jvm.Cond.code x code maxLocals ret :: tables_1
/-- a 'code' word, met by the world's own term for the bytes: nothing is compared byte by byte -/
theorem code_word {y : MethodName} {bytes : ByteArray} {mx : Nat} {rt : Option FieldType} {a : Array Value} {s : State} {m : MethodId} {meth : Method} {c : Code} (h1 : s.methodNamed? y = some m) (h2 : s.vm.method? m = some meth) (h3 : meth.code = some c) (h4 : c.code = bytes)
    (h5 : (c.maxLocals == mx && c.exceptionTable.isEmpty && decide (c.maxStack ≤ mostOperands) && decide (meth.sig.returnType = rt) && !meth.locks && decide (parseMethodDescriptor y.desc = some meth.sig)) = true) : (Jvm.Cond.code y bytes mx rt).before a s = true := by
  simp only [Bool.and_eq_true, beq_iff_eq, Bool.not_eq_true', decide_eq_true_eq] at h5
  obtain ⟨⟨⟨⟨⟨g1, g2⟩, g3⟩, g4⟩, g5⟩, g6⟩ := h5
  simp [Cond.before, Cond.holds, Cond.value, h1, h2, h3, h4, g1, g2, g3, g4, g5, g6]
def isCode : Jvm.Cond → Bool
  | .code _ _ _ _ => true
  | _ => false
theorem all_split {L : List Jvm.Cond} {P : Jvm.Cond → Bool} (h1 : L.all (fun c => isCode c || P c) = true) (h2 : ∀ c ∈ L.filter isCode, P c = true) : L.all P = true := by
  refine List.all_eq_true.mpr fun c hc => ?_
  have h := List.all_eq_true.mp h1 c hc
  rcases Bool.eq_false_or_eq_true (isCode c) with hi | hi
  · exact h2 c (List.mem_filter.mpr ⟨hc, hi⟩)
  · simpa [hi] using h
set_option maxRecDepth 65536 in
theorem w_c0 : (Jvm.Cond.code x code maxLocals ret).before args0 about1 = true := code_word (m := ⟨1, 1⟩) (meth := k1m1) (c := k1c1) (by decide +kernel) rfl rfl rfl (by decide +kernel)
set_option maxRecDepth 65536 in
theorem w_c1 : (Jvm.Cond.code ({ cls := "java/lang/String", name := "<init>", desc := "([C)V" } : Jvm.MethodName) jdk_42_method_3_code (2 : Nat) (Option.none : Option Jvm.ClassFile.FieldType)).before args0 about1 = true := code_word (m := ⟨7, 1⟩) (meth := k7m1) (c := k7c1) (by decide +kernel) rfl rfl rfl (by decide +kernel)
set_option maxRecDepth 65536 in
theorem w_c2 : (Jvm.Cond.code ({ cls := "java/lang/String", name := "<init>", desc := "([CIILjava/lang/Void;)V" } : Jvm.MethodName) jdk_42_method_149_code (6 : Nat) (Option.none : Option Jvm.ClassFile.FieldType)).before args0 about1 = true := code_word (m := ⟨7, 2⟩) (meth := k7m2) (c := k7c2) (by decide +kernel) rfl rfl rfl (by decide +kernel)
set_option maxRecDepth 65536 in
theorem w_c3 : (Jvm.Cond.code ({ cls := "java/lang/Object", name := "<init>", desc := "()V" } : Jvm.MethodName) object_method_1_code (1 : Nat) (Option.none : Option Jvm.ClassFile.FieldType)).before args0 about1 = true := code_word (m := ⟨0, 0⟩) (meth := k0m0) (c := k0c0) (by decide +kernel) rfl rfl rfl (by decide +kernel)
set_option maxRecDepth 65536 in
theorem w_c4 : (Jvm.Cond.code ({ cls := "java/lang/StringUTF16", name := "compress", desc := "([CII)[B" } : Jvm.MethodName) jdk_52_method_16_code (6 : Nat) (Option.some (Jvm.ClassFile.FieldType.array Jvm.ClassFile.FieldType.byte))).before args0 about1 = true := code_word (m := ⟨8, 2⟩) (meth := k8m2) (c := k8c2) (by decide +kernel) rfl rfl rfl (by decide +kernel)
set_option maxRecDepth 65536 in
theorem w_c5 : (Jvm.Cond.code ({ cls := "java/lang/StringUTF16", name := "compress", desc := "([CI[BII)I" } : Jvm.MethodName) jdk_52_method_21_code (7 : Nat) (Option.some Jvm.ClassFile.FieldType.int)).before args0 about1 = true := code_word (m := ⟨8, 3⟩) (meth := k8m3) (c := k8c3) (by decide +kernel) rfl rfl rfl (by decide +kernel)
set_option maxRecDepth 65536 in
theorem w_c6 : (Jvm.Cond.code ({ cls := "java/lang/StringUTF16", name := "coderFromArrayLen", desc := "([BI)B" } : Jvm.MethodName) jdk_52_method_15_code (2 : Nat) (Option.some Jvm.ClassFile.FieldType.byte)).before args0 about1 = true := code_word (m := ⟨8, 1⟩) (meth := k8m1) (c := k8c1) (by decide +kernel) rfl rfl rfl (by decide +kernel)
set_option maxRecDepth 65536 in
theorem w_c7 : (Jvm.Cond.code ({ cls := "com/example/topiq/topiq/protocol/TopicRoute$QueueData", name := "<init>", desc := "(Ljava/lang/String;III)V" } : Jvm.MethodName) prog_50_method_1_code (5 : Nat) (Option.none : Option Jvm.ClassFile.FieldType)).before args0 about1 = true := code_word (m := ⟨9, 0⟩) (meth := k9m0) (c := k9c0) (by decide +kernel) rfl rfl rfl (by decide +kernel)
set_option maxRecDepth 65536 in
theorem w_c8 : (Jvm.Cond.code ({ cls := "com/example/topiq/topiq/protocol/TopicRoute$QueueData", name := "isReadable", desc := "()Z" } : Jvm.MethodName) prog_50_method_9_code (1 : Nat) (Option.some Jvm.ClassFile.FieldType.boolean)).before args0 about1 = true := code_word (m := ⟨9, 1⟩) (meth := k9m1) (c := k9c1) (by decide +kernel) rfl rfl rfl (by decide +kernel)
def codes1 : List Jvm.Cond := [Jvm.Cond.code x code maxLocals ret, Jvm.Cond.code ({ cls := "java/lang/String", name := "<init>", desc := "([C)V" } : Jvm.MethodName) jdk_42_method_3_code (2 : Nat) (Option.none : Option Jvm.ClassFile.FieldType), Jvm.Cond.code ({ cls := "java/lang/String", name := "<init>", desc := "([CIILjava/lang/Void;)V" } : Jvm.MethodName) jdk_42_method_149_code (6 : Nat) (Option.none : Option Jvm.ClassFile.FieldType), Jvm.Cond.code ({ cls := "java/lang/Object", name := "<init>", desc := "()V" } : Jvm.MethodName) object_method_1_code (1 : Nat) (Option.none : Option Jvm.ClassFile.FieldType), Jvm.Cond.code ({ cls := "java/lang/StringUTF16", name := "compress", desc := "([CII)[B" } : Jvm.MethodName) jdk_52_method_16_code (6 : Nat) (Option.some (Jvm.ClassFile.FieldType.array Jvm.ClassFile.FieldType.byte)), Jvm.Cond.code ({ cls := "java/lang/StringUTF16", name := "compress", desc := "([CI[BII)I" } : Jvm.MethodName) jdk_52_method_21_code (7 : Nat) (Option.some Jvm.ClassFile.FieldType.int), Jvm.Cond.code ({ cls := "java/lang/StringUTF16", name := "coderFromArrayLen", desc := "([BI)B" } : Jvm.MethodName) jdk_52_method_15_code (2 : Nat) (Option.some Jvm.ClassFile.FieldType.byte), Jvm.Cond.code ({ cls := "com/example/topiq/topiq/protocol/TopicRoute$QueueData", name := "<init>", desc := "(Ljava/lang/String;III)V" } : Jvm.MethodName) prog_50_method_1_code (5 : Nat) (Option.none : Option Jvm.ClassFile.FieldType), Jvm.Cond.code ({ cls := "com/example/topiq/topiq/protocol/TopicRoute$QueueData", name := "isReadable", desc := "()Z" } : Jvm.MethodName) prog_50_method_9_code (1 : Nat) (Option.some Jvm.ClassFile.FieldType.boolean)]
set_option maxRecDepth 65536 in
theorem codes_eq : words1.filter isCode = codes1 := rfl
theorem w_codes : ∀ c ∈ words1.filter isCode, c.before args0 about1 = true := by
  rw [codes_eq]
  intro c hc
  simp only [codes1, List.mem_cons, List.not_mem_nil, or_false] at hc
  rcases hc with rfl | rfl | rfl | rfl | rfl | rfl | rfl | rfl | rfl
  · exact w_c0
  · exact w_c1
  · exact w_c2
  · exact w_c3
  · exact w_c4
  · exact w_c5
  · exact w_c6
  · exact w_c7
  · exact w_c8
set_option maxRecDepth 65536 in
theorem w_t1 : (words1.take 24).all (fun c => isCode c || c.before args0 about1) = true := by decide +kernel
set_option maxRecDepth 65536 in
theorem w_t2 : ((words1.drop 24).take 24).all (fun c => isCode c || c.before args0 about1) = true := by decide +kernel
set_option maxRecDepth 65536 in
theorem w_t3 : ((words1.drop 24).drop 24).all (fun c => isCode c || c.before args0 about1) = true := by decide +kernel
theorem w_tables : (allAtoms (Jvm.Cond.code x code maxLocals ret :: tables_1)).before args0 about1 = true := by
  rw [allAtoms_all]
  show words1.all (fun c => c.before args0 about1) = true
  refine all_split ?_ w_codes
  rw [← List.take_append_drop 24 words1, List.all_append, w_t1, ← List.take_append_drop 24 (words1.drop 24), List.all_append, w_t2, w_t3]
  rfl
set_option maxRecDepth 65536 in
theorem w_rest : rest_1_c.before args0 about1 = true := by decide +kernel
set_option maxRecDepth 65536 in
theorem w_case : (Jvm.Cond.and given_1 narrow_1).before args0 about1 = true := by decide +kernel
theorem w_applies : (headSpec (Jvm.Cond.code x code maxLocals ret :: tables_1) room_1).applies x e0.platform about1 = true :=
  (Spec.applies_iff w_frames).mpr ⟨w_running, w_runnable, w_alone, w_named, w_hears, w_ripe, w_room, w_tables⟩
theorem atStart : AtStart classFile x code maxLocals ret World_1 tables_1 room_1 Calls_1 rest_1 Pre_1 launch0 p0 e0 about1 theMethod args0 below0 :=
  ⟨lists_1, trivial, launch0.admits_env _ _ _, launch0.least_env, fairChoices_fair.cas, fairChoices_fair.clock, w_frames, w_args, w_heap, w_applies, trivial, w_rest, w_case⟩
end start1
theorem witness_1 : WitnessClaimed_1 := ⟨start1.p0, start1.e0, start1.about1, start1.theMethod, start1.args0, start1.below0, start1.atStart⟩
end Jvm.Pilot.@@N@@
