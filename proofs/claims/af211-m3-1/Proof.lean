import JvmDerived
import JvmDerived.Pilot.@@N@@Statement
import JvmDerived.Pilot.@@N@@Code
set_option linter.unusedVariables false
set_option linter.unusedSimpArgs false
namespace Jvm.RoadKit
open Sem ClassFile Op Lib Jvm.Stand Jvm.Free Jvm.LawKit
section New
variable {p : Program} {l : Launch} {e : Env} {R : Room} {s : State} {m : MethodId} {args : Array Value} {below : List Frame} {meth : Method} {c : Code} {T : State} {locs : List Loc} {cells slots : Nat}
theorem retI (X : Stand p l e R s m args below meth c T locs cells slots) (hx : p.tables.exec = Jvm.exec) {pc : Nat} {Ls : Array Slot} {z : Int32} {rest : List Value} (hret : meth.sig.returnType = some .int) (hd : decode c.code pc = .ok (.ireturn, 1)) {fs : List Frame}
    (hl : ∀ (f : JFrame) (acts : List Action), f.method = m → f.locked = none → f.entered = [] → (doReturn e (T.setTop f) acts (some (.int z))).1 = T.setFrames fs) : Steps p.tables e below (T.setTop (mkF m pc Ls (.int z :: rest))) (T.setFrames fs) := by
  have hm' : T.vm.method? m = some meth := X.method'
  have hn : narrow .int (.int z) = .int z := rfl
  show Steps p.tables e below (T.setTop { method := m, pc := pc, locals := Ls, stack := _ :: rest, locked := none }) _
  jvm_step X.here [X.here.top, hx, hd, hm', hret, hn]
  first | (intro acts; rw [hl _ acts rfl rfl rfl]) | rw [hl _ _ rfl rfl rfl]
  exact Steps.refl _
end New
end Jvm.RoadKit
/- laws to paste: Road.backV, Road.eqW (cut by pick.py; bodies as the Statement names them) -/
namespace Jvm.Pilot.@@N@@
namespace StrChars
open Jvm Sem ClassFile Op Lib Jvm.Stand Jvm.Free.XT Jvm.Free.ALB Jvm.Free.JM Jvm.Free
open Jvm.Lib.Cold (StaticIs)
/-- a char array whose places are chars -/
def Ch (a : Addr) (A : Cell) (U : State) : Prop := Arr .char a A U ∧ Typed .char A
theorem Ch.mv {a : Addr} {A : Cell} {U U' : State} (h : Ch a A U) (hal : U.vm.Alike U'.vm) (hh : U'.heap = U.heap) : Ch a A U' := ⟨h.1.mv hal hh, h.2⟩
theorem Ch.keep {a : Addr} {A : Cell} {U U' : State} (h : Ch a A U) (hal : U.vm.Alike U'.vm) (hk : U'.heap[a]? = some A) : Ch a A U' := ⟨h.1.keep hal hk, h.2⟩
/-- what place i of a char[]'s cell holds -/
def cv (A : Cell) (i : Nat) : Int32 := match A.slots[i]? with | some (.int x) => x | _ => 0
theorem Ch.get {a : Addr} {A : Cell} {U : State} (h : Ch a A U) {i : Nat} (hi : i < A.slots.size) : A.slots[i]? = some (.int (cv A i)) := by
  have e := Array.getElem?_eq_getElem hi
  have f := h.2 i _ e
  unfold cv; rw [e]
  generalize A.slots[i] = v at f
  cases v <;> simp [fits] at f ⊢
/-- the byte that i2b leaves of a char -/
def lo8 (x : Int32) : Int32 := x.toInt8.toInt32
theorem fits_lo8 (y : Int32) : fits .byte (.int (lo8 y)) = true := by
  have h1 := y.toInt8.le_toInt
  have h2 := y.toInt8.toInt_lt
  simp only [lo8, fits, Bool.and_eq_true, decide_eq_true_eq, Int32.le_iff_toInt_le, Int8.toInt_toInt32, show (-128 : Int32).toInt = -128 from by decide, show (127 : Int32).toInt = 127 from by decide]
  omega
/-- A' is A but that each place j of lo .. hi - 1 holds f j -/
def Laid (A A' : Cell) (lo hi : Nat) (f : Nat → Value) : Prop := A'.cls = A.cls ∧ A'.vm = A.vm ∧ A'.slots.size = A.slots.size ∧ ∀ i, A'.slots[i]? = if lo ≤ i ∧ i < hi then some (f i) else A.slots[i]?
theorem Laid.zero (A : Cell) (lo : Nat) (f : Nat → Value) : Laid A A lo (lo + 0) f := ⟨rfl, rfl, rfl, fun i => by rw [if_neg (by omega)]⟩
theorem Laid.step {A Ak : Cell} {lo k : Nat} {f : Nat → Value} {v : Value} (h : Laid A Ak lo k f) (hlo : lo ≤ k) (hk : k < Ak.slots.size) (hv : v = f k) : Laid A (Ak.setSlot k v) lo (k + 1) f := by
  refine ⟨h.1, h.2.1, by simpa [Cell.setSlot] using h.2.2.1, fun i => ?_⟩
  by_cases e : k = i
  · subst e; rw [Cell.slots_setSlot_self v hk, if_pos (by omega), hv]
  · rw [Cell.slots_setSlot_ne v e, h.2.2.2 i]
    by_cases q : lo ≤ i ∧ i < k
    · rw [if_pos q, if_pos (by omega)]
    · rw [if_neg q, if_neg (by omega)]
def U16 : String := "java/lang/StringUTF16"
namespace Cmp5
def yN : MethodName := ⟨"java/lang/StringUTF16", "compress", "([CI[BII)I"⟩
abbrev yB : ByteArray := jdk_52_method_21_code
theorem d0 : decode yB 0 = .ok (.iconst 0, 1) := by decide +kernel
theorem d1 : decode yB 1 = .ok (.istore 5, 2) := by decide +kernel
theorem d3 : decode yB 3 = .ok (.iload 5, 2) := by decide +kernel
theorem d5 : decode yB 5 = .ok (.iload 4, 2) := by decide +kernel
theorem d7 : decode yB 7 = .ok (.if_icmp (.ge) 37, 3) := by decide +kernel
theorem d10 : decode yB 10 = .ok (.aload_n 0, 1) := by decide +kernel
theorem d11 : decode yB 11 = .ok (.iload_n 1, 1) := by decide +kernel
theorem d12 : decode yB 12 = .ok (.caload, 1) := by decide +kernel
theorem d13 : decode yB 13 = .ok (.istore 6, 2) := by decide +kernel
theorem d15 : decode yB 15 = .ok (.iload 6, 2) := by decide +kernel
theorem d17 : decode yB 17 = .ok (.sipush 255, 3) := by decide +kernel
theorem d20 : decode yB 20 = .ok (.if_icmp (.le) 6, 3) := by decide +kernel
theorem d26 : decode yB 26 = .ok (.aload_n 2, 1) := by decide +kernel
theorem d27 : decode yB 27 = .ok (.iload_n 3, 1) := by decide +kernel
theorem d28 : decode yB 28 = .ok (.iload 6, 2) := by decide +kernel
theorem d30 : decode yB 30 = .ok (.i2b, 1) := by decide +kernel
theorem d31 : decode yB 31 = .ok (.bastore, 1) := by decide +kernel
theorem d32 : decode yB 32 = .ok (.iinc 1 1, 3) := by decide +kernel
theorem d35 : decode yB 35 = .ok (.iinc 3 1, 3) := by decide +kernel
theorem d38 : decode yB 38 = .ok (.iinc 5 1, 3) := by decide +kernel
theorem d41 : decode yB 41 = .ok (.goto (-38), 3) := by decide +kernel
theorem d44 : decode yB 44 = .ok (.iload 4, 2) := by decide +kernel
theorem d46 : decode yB 46 = .ok (.ireturn, 1) := by decide +kernel
def site : List Cond := []
def tab : Cond := tabOf yN yB 7 (some .int) site
def P (b : Addr) (A : Cell) (d : Addr) (B : Cell) (o q len : Nat) (args : Array Value) (s : State) : Prop := args = #[.ref b, .int (Int32.ofNat o), .ref d, .int (Int32.ofNat q), .int (Int32.ofNat len)] ∧ Ch b A s ∧ Arr .byte d B s ∧ b ≠ d ∧ o + len ≤ A.slots.size ∧ q + len ≤ B.slots.size ∧ ∀ i, i < len → ¬ 255 < cv A (o + i)
def E (b : Addr) (A : Cell) (d : Addr) (B : Cell) (o q len : Nat) (r : Option Value) (s u : State) : Prop := r = some (.int (Int32.ofNat len)) ∧ ∃ B', Put d B' s u ∧ Laid B B' q (q + len) (fun j => Value.int (lo8 (cv A (o + (j - q)))))
/-- no char of the range above 255: len; the places written hold each char's low byte -/
theorem law (l : Launch) (b : Addr) (A : Cell) (d : Addr) (B : Cell) (o q len : Nat) : Law l yN 5 5 0 0 yB 7 (some .int) site (P b A d B o q len) (E b A d B o q len) (copyLocs d q len) 0 0 := by
  refine Law.of_walk (plainFor_of_name (by decide +kernel)) (by decide +kernel) (by decide +kernel) (by decide) (fun _ _ h => by rw [h.1]; rfl) (fun _ U U' hal hh h => ⟨h.1, h.2.1.mv hal hh, h.2.2.1.mv hal hh, h.2.2.2⟩) (fun r U U' V V' h1 hal h2 h => ⟨h.1, h.2.elim fun B' q => ⟨B', q.1.mv h1 h2, q.2⟩⟩) ?_
  intro p e s m args below meth c s₁ X0 hexec hbytes hml hret hlk hnm hown hh0 W hP
  obtain ⟨rfl, hA, hB, hne, l1, l2, hp⟩ := hP
  have c1 : Steps p.tables e below (s₁.setTop (entryFrame m #[.ref b, .int (Int32.ofNat o), .ref d, .int (Int32.ofNat q), .int (Int32.ofNat len)] 7)) (s₁.setTop (mkF m 0 #[.val (.ref b), .val (.int (Int32.ofNat o)), .val (.ref d), .val (.int (Int32.ofNat q)), .val (.int (Int32.ofNat len)), .unset, .unset] [])) := entry rfl
  have hA0 := hA.1.mv X0.warmed.alike hh0
  have hB0 := hB.mv X0.warmed.alike hh0
  have a31 := hA.1.2.2.2
  have c2 : Steps p.tables e below (s₁.setTop (entryFrame m #[.ref b, .int (Int32.ofNat o), .ref d, .int (Int32.ofNat q), .int (Int32.ofNat len)] 7)) (s₁.setTop (mkF m 3 #[.val (.ref b), .val (.int (Int32.ofNat o)), .val (.ref d), .val (.int (Int32.ofNat q)), .val (.int (Int32.ofNat len)), .val (.int 0), .unset] [])) := c1.trans (by
    refine iconstV X0.here hexec rfl 0 (hb hbytes d0) (by decide) ?_
    refine XS.istore X0.here hexec rfl (hb hbytes d1) rfl rfl ?_
    exact Steps.refl _)
  have loop : ∀ (r i : Nat), i + r = len → ∀ (z : Slot), (z = .unset ∨ ∃ w, z = .val w ∧ w.category = 1) → ∀ (Tl : State) (Bk : Cell), Stand p l e { frames := 0, locals := 0, cells := 0, slots := 0 } s m #[.ref b, .int (Int32.ofNat o), .ref d, .int (Int32.ofNat q), .int (Int32.ofNat len)] below meth c Tl ([] ++ copyLocs d q i) 0 0 → Put d Bk s₁ Tl → Laid B Bk q (q + i) (fun j => Value.int (lo8 (cv A (o + (j - q))))) →
      Steps p.tables e below (s₁.setTop (entryFrame m #[.ref b, .int (Int32.ofNat o), .ref d, .int (Int32.ofNat q), .int (Int32.ofNat len)] 7)) (Tl.setTop (mkF m 3 #[.val (.ref b), .val (.int (Int32.ofNat (o + i))), .val (.ref d), .val (.int (Int32.ofNat (q + i))), .val (.int (Int32.ofNat len)), .val (.int (Int32.ofNat i)), z] [])) → ∃ (T' : State) (B' : Cell) (z' : Slot), Stand p l e { frames := 0, locals := 0, cells := 0, slots := 0 } s m #[.ref b, .int (Int32.ofNat o), .ref d, .int (Int32.ofNat q), .int (Int32.ofNat len)] below meth c T' ([] ++ copyLocs d q len) 0 0 ∧ Put d B' s₁ T' ∧ Laid B B' q (q + len) (fun j => Value.int (lo8 (cv A (o + (j - q))))) ∧
      Steps p.tables e below (s₁.setTop (entryFrame m #[.ref b, .int (Int32.ofNat o), .ref d, .int (Int32.ofNat q), .int (Int32.ofNat len)] 7)) (T'.setTop (mkF m 3 #[.val (.ref b), .val (.int (Int32.ofNat (o + len))), .val (.ref d), .val (.int (Int32.ofNat (q + len))), .val (.int (Int32.ofNat len)), .val (.int (Int32.ofNat len)), z'] [])) := by
    intro r
    induction r with
    | zero =>
      intro i hi z hz Tl Bk Xl pl fl cl
      have hil : i = len := by omega
      rw [hil] at Xl fl cl
      exact ⟨Tl, Bk, z, Xl, pl, fl, cl⟩
    | succ r ih =>
      intro i hi z hz Tl Bk Xl pl fl cl
      have all := X0.warmed.alike.symm.trans Xl.warmed.alike
      have hAl := hA0.keep all (pl.other hne hA0.1)
      have hBk := hB0.like all pl.1 fl.1 fl.2.1 fl.2.2.1
      have hlt : q + i < Bk.slots.size := by rw [fl.2.2.1]; omega
      have c3 : Steps p.tables e below (s₁.setTop (entryFrame m #[.ref b, .int (Int32.ofNat o), .ref d, .int (Int32.ofNat q), .int (Int32.ofNat len)] 7)) (Tl.setTop (mkF m 12 #[.val (.ref b), .val (.int (Int32.ofNat (o + i))), .val (.ref d), .val (.int (Int32.ofNat (q + i))), .val (.int (Int32.ofNat len)), .val (.int (Int32.ofNat i)), z] [.int (Int32.ofNat (o + i)), .ref b])) := cl.trans (by
        refine XS.iload Xl.here hexec rfl (hb hbytes d3) rfl ?_
        refine XS.iload Xl.here hexec rfl (hb hbytes d5) rfl ?_
        refine XS.icmpNo Xl.here hexec rfl (hb hbytes d7) rfl (ii_ge_f (lt32 (by omega) (by omega))) ?_
        refine XS.aloadN Xl.here hexec rfl (hb hbytes d10) rfl rfl ?_
        refine XS.iloadN Xl.here hexec rfl (hb hbytes d11) rfl ?_
        exact Steps.refl _)
      have c4 : Steps p.tables e below (s₁.setTop (entryFrame m #[.ref b, .int (Int32.ofNat o), .ref d, .int (Int32.ofNat q), .int (Int32.ofNat len)] 7)) (Tl.setTop (mkF m 13 #[.val (.ref b), .val (.int (Int32.ofNat (o + i))), .val (.ref d), .val (.int (Int32.ofNat (q + i))), .val (.int (Int32.ofNat len)), .val (.int (Int32.ofNat i)), z] [.int (cv A (o + i))])) := c3.trans (by
        refine Xl.aget hexec hAl rfl (hA.get (i := o + i) (by omega)) rfl rfl (hb hbytes d12) ?_
        exact Steps.refl _)
      have c5 : Steps p.tables e below (s₁.setTop (entryFrame m #[.ref b, .int (Int32.ofNat o), .ref d, .int (Int32.ofNat q), .int (Int32.ofNat len)] 7)) (Tl.setTop (mkF m 15 #[.val (.ref b), .val (.int (Int32.ofNat (o + i))), .val (.ref d), .val (.int (Int32.ofNat (q + i))), .val (.int (Int32.ofNat len)), .val (.int (Int32.ofNat i)), .val (.int (cv A (o + i)))] [])) := c4.trans (by
        refine XS.istoreS Xl.here hexec rfl (hb hbytes d13) rfl rfl hz ?_
        exact Steps.refl _)
      have c6 : Steps p.tables e below (s₁.setTop (entryFrame m #[.ref b, .int (Int32.ofNat o), .ref d, .int (Int32.ofNat q), .int (Int32.ofNat len)] 7)) (Tl.setTop (mkF m 31 #[.val (.ref b), .val (.int (Int32.ofNat (o + i))), .val (.ref d), .val (.int (Int32.ofNat (q + i))), .val (.int (Int32.ofNat len)), .val (.int (Int32.ofNat i)), .val (.int (cv A (o + i)))] [.int (lo8 (cv A (o + i))), .int (Int32.ofNat (q + i)), .ref d])) := c5.trans (by
        refine XS.iload Xl.here hexec rfl (hb hbytes d15) rfl ?_
        refine sipushV Xl.here hexec rfl 255 (hb hbytes d17) (by decide) ?_
        refine XS.icmpYes Xl.here hexec rfl (pc0 := 20) rfl (hb hbytes d20) rfl (ii_le_t (hp i (by omega))) (by decide) rfl ?_
        refine XS.aloadN Xl.here hexec rfl (hb hbytes d26) rfl rfl ?_
        refine XS.iloadN Xl.here hexec rfl (hb hbytes d27) rfl ?_
        refine XS.iload Xl.here hexec rfl (hb hbytes d28) rfl ?_
        refine i2b Xl.here hexec rfl (hb hbytes d30) rfl ?_
        exact Steps.refl _)
      obtain ⟨T7, X7, p7, st7⟩ := Xl.aput hexec hBk rfl hlt rfl (fits_lo8 (cv A (o + i))) (g := (mkF m 31 #[.val (.ref b), .val (.int (Int32.ofNat (o + i))), .val (.ref d), .val (.int (Int32.ofNat (q + i))), .val (.int (Int32.ofNat len)), .val (.int (Int32.ofNat i)), .val (.int (cv A (o + i)))] [.int (lo8 (cv A (o + i))), .int (Int32.ofNat (q + i)), .ref d])) rfl (rest := []) rfl (hb hbytes d31)
      have c8 : Steps p.tables e below (s₁.setTop (entryFrame m #[.ref b, .int (Int32.ofNat o), .ref d, .int (Int32.ofNat q), .int (Int32.ofNat len)] 7)) (T7.setTop (mkF m 32 #[.val (.ref b), .val (.int (Int32.ofNat (o + i))), .val (.ref d), .val (.int (Int32.ofNat (q + i))), .val (.int (Int32.ofNat len)), .val (.int (Int32.ofNat i)), .val (.int (cv A (o + i)))] [])) := c6.trans (st7 _ (Steps.refl _))
      have c9 : Steps p.tables e below (s₁.setTop (entryFrame m #[.ref b, .int (Int32.ofNat o), .ref d, .int (Int32.ofNat q), .int (Int32.ofNat len)] 7)) (T7.setTop (mkF m 3 #[.val (.ref b), .val (.int (Int32.ofNat (o + i) + 1)), .val (.ref d), .val (.int (Int32.ofNat (q + i) + 1)), .val (.int (Int32.ofNat len)), .val (.int (Int32.ofNat i + 1)), .val (.int (cv A (o + i)))] [])) := c8.trans (by
        refine iincV X7.here hexec rfl 1 (hb hbytes d32) (by decide) rfl rfl ?_
        refine iincV X7.here hexec rfl 1 (hb hbytes d35) (by decide) rfl rfl ?_
        refine iincV X7.here hexec rfl 1 (hb hbytes d38) (by decide) rfl rfl ?_
        refine XS.goto X7.here hexec rfl (pc0 := 41) rfl (hb hbytes d41) (by decide) rfl ?_
        exact Steps.refl _)
      have c10 : Steps p.tables e below (s₁.setTop (entryFrame m #[.ref b, .int (Int32.ofNat o), .ref d, .int (Int32.ofNat q), .int (Int32.ofNat len)] 7)) (T7.setTop (mkF m 3 #[.val (.ref b), .val (.int (Int32.ofNat (o + (i + 1)))), .val (.ref d), .val (.int (Int32.ofNat (q + (i + 1)))), .val (.int (Int32.ofNat len)), .val (.int (Int32.ofNat (i + 1))), .val (.int (cv A (o + i)))] [])) := by
        have := c9
        rw [succ32, succ32, succ32] at this
        exact this
      exact ih (i + 1) (by omega) _ (Or.inr ⟨_, rfl, rfl⟩) T7 _ (by rw [copyLocs_step, ← List.append_assoc]; exact X7) (pl.trans p7) (fl.step (by omega) hlt (by simp)) c10
  obtain ⟨T9, B9, z9, X9, p9, f9, g9⟩ := loop len 0 (by omega) .unset (Or.inl rfl) s₁ B (by simpa [copyLocs] using X0) ⟨hB0.1, fun _ _ => rfl, rfl⟩ (Laid.zero _ _ _) c2
  have c11 : Steps p.tables e below (s₁.setTop (entryFrame m #[.ref b, .int (Int32.ofNat o), .ref d, .int (Int32.ofNat q), .int (Int32.ofNat len)] 7)) (T9.setTop (mkF m 46 #[.val (.ref b), .val (.int (Int32.ofNat (o + len))), .val (.ref d), .val (.int (Int32.ofNat (q + len))), .val (.int (Int32.ofNat len)), .val (.int (Int32.ofNat len)), z9] [.int (Int32.ofNat len)])) := g9.trans (by
    refine XS.iload X9.here hexec rfl (hb hbytes d3) rfl ?_
    refine XS.iload X9.here hexec rfl (hb hbytes d5) rfl ?_
    refine XS.icmpYes X9.here hexec rfl (pc0 := 7) rfl (hb hbytes d7) rfl (ii_ge_t (nlt32 (by omega) (Nat.le_refl _))) (by decide) rfl ?_
    refine XS.iload X9.here hexec rfl (hb hbytes d44) rfl ?_
    exact Steps.refl _)
  exact ⟨T9, some (.int (Int32.ofNat len)), _, _, _, X9, by simp, rfl, rfl, (fun h => by cases h), ⟨rfl, B9, p9.from hh0, f9⟩, fun fs hl => c11.trans (X9.ireturnOut hexec hret rfl (Or.inl rfl) (hb hbytes d46) hl)⟩
end Cmp5
namespace Cmp3
def yN : MethodName := ⟨"java/lang/StringUTF16", "compress", "([CII)[B"⟩
abbrev yB : ByteArray := jdk_52_method_16_code
theorem d0 : decode yB 0 = .ok (.iload_n 2, 1) := by decide +kernel
theorem d1 : decode yB 1 = .ok (.newarray .byte, 2) := by decide +kernel
theorem d3 : decode yB 3 = .ok (.astore_n 3, 1) := by decide +kernel
theorem d4 : decode yB 4 = .ok (.aload_n 0, 1) := by decide +kernel
theorem d5 : decode yB 5 = .ok (.iload_n 1, 1) := by decide +kernel
theorem d6 : decode yB 6 = .ok (.aload_n 3, 1) := by decide +kernel
theorem d7 : decode yB 7 = .ok (.iconst 0, 1) := by decide +kernel
theorem d8 : decode yB 8 = .ok (.iload_n 2, 1) := by decide +kernel
theorem d9 : decode yB 9 = .ok (.invokestatic 115, 3) := by decide +kernel
theorem d12 : decode yB 12 = .ok (.istore 4, 2) := by decide +kernel
theorem d14 : decode yB 14 = .ok (.iload 4, 2) := by decide +kernel
theorem d16 : decode yB 16 = .ok (.iload_n 2, 1) := by decide +kernel
theorem d17 : decode yB 17 = .ok (.if_icmp (.eq) 40, 3) := by decide +kernel
theorem d57 : decode yB 57 = .ok (.aload_n 3, 1) := by decide +kernel
theorem d58 : decode yB 58 = .ok (.areturn, 1) := by decide +kernel
def site : List Cond := [.arrayClass .byte, Cmp5.tab] ++ staticW U16 115 Cmp5.yN
def tab : Cond := tabOf yN yB 6 (some (.array .byte)) site
def P (b : Addr) (A : Cell) (o len : Nat) (args : Array Value) (s : State) : Prop := args = #[.ref b, .int (Int32.ofNat o), .int (Int32.ofNat len)] ∧ Ch b A s ∧ o + len ≤ A.slots.size ∧ len ≤ 536870912 ∧ ∀ i, i < len → ¬ 255 < cv A (o + i)
def E (b : Addr) (A : Cell) (o len : Nat) (r : Option Value) (s u : State) : Prop := NewArr .byte "[B" len (fun j => .int (lo8 (cv A (o + j)))) r s u ∧ u.heap.size = s.heap.size + 1
/-- no char of the range above 255: a new byte[] of their low bytes -/
theorem law (l : Launch) (b : Addr) (A : Cell) (o len : Nat) : Law l yN 3 3 1 18 yB 6 (some (.array .byte)) site (P b A o len) (E b A o len) [] 1 len := by
  refine Law.of_walk (plainFor_of_name (by decide +kernel)) (by decide +kernel) (by decide +kernel) (by decide) (fun _ _ h => by rw [h.1]; rfl) (fun _ U U' hal hh h => ⟨h.1, h.2.1.mv hal hh, h.2.2⟩) (fun r U U' V V' h1 hal h2 h => ⟨NewArr.mv r U U' V V' h1 hal h2 h.1, by rw [h1, h2]; exact h.2⟩) ?_
  intro p e s m args below meth c s₁ X0 hexec hbytes hml hret hlk hnm hown hh0 W hP
  obtain ⟨rfl, hA, l1, l2, hp⟩ := hP
  have a31 := hA.1.2.2.2
  have c1 : Steps p.tables e below (s₁.setTop (entryFrame m #[.ref b, .int (Int32.ofNat o), .int (Int32.ofNat len)] 6)) (s₁.setTop (mkF m 0 #[.val (.ref b), .val (.int (Int32.ofNat o)), .val (.int (Int32.ofNat len)), .unset, .unset, .unset] [])) := entry rfl
  have c2 : Steps p.tables e below (s₁.setTop (entryFrame m #[.ref b, .int (Int32.ofNat o), .int (Int32.ofNat len)] 6)) (s₁.setTop (mkF m 1 #[.val (.ref b), .val (.int (Int32.ofNat o)), .val (.int (Int32.ofNat len)), .unset, .unset, .unset] [.int (Int32.ofNat len)])) := c1.trans (by
    refine XS.iloadN X0.here hexec rfl (hb hbytes d0) rfl ?_
    exact Steps.refl _)
  obtain ⟨T3, B3, X3, ba3, bs3, bv3, bh3, bf3, st3⟩ := X0.anew hexec (atype := .byte) (wk W (.arrayClass .byte)) rfl (by show len * 1 ≤ _; omega) (by omega) (g := (mkF m 1 #[.val (.ref b), .val (.int (Int32.ofNat o)), .val (.int (Int32.ofNat len)), .unset, .unset, .unset] [.int (Int32.ofNat len)])) rfl (hb hbytes d1) (rest := []) rfl (Nat.le_refl _) (by show 0 + len ≤ len; omega)
  rw [hh0] at ba3 st3
  have kp3 : XT.Kept s T3 := (XT.Kept.of_eq hh0).push bh3
  have hA3 := hA.keep X3.warmed.alike (kp3 _ _ hA.1.1)
  have hne : b ≠ s.heap.size := hA.1.ne
  have c4 : Steps p.tables e below (s₁.setTop (entryFrame m #[.ref b, .int (Int32.ofNat o), .int (Int32.ofNat len)] 6)) (T3.setTop (mkF m 3 #[.val (.ref b), .val (.int (Int32.ofNat o)), .val (.int (Int32.ofNat len)), .unset, .unset, .unset] [.ref s.heap.size])) := c2.trans (st3 _ (Steps.refl _))
  have c5 : Steps p.tables e below (s₁.setTop (entryFrame m #[.ref b, .int (Int32.ofNat o), .int (Int32.ofNat len)] 6)) (T3.setTop (mkF m 9 #[.val (.ref b), .val (.int (Int32.ofNat o)), .val (.int (Int32.ofNat len)), .val (.ref s.heap.size), .unset, .unset] [.int (Int32.ofNat len), .int 0, .ref s.heap.size, .int (Int32.ofNat o), .ref b])) := c4.trans (by
    refine XS.astoreN X3.here hexec rfl (hb hbytes d3) rfl rfl rfl ?_
    refine XS.aloadN X3.here hexec rfl (hb hbytes d4) rfl rfl ?_
    refine XS.iloadN X3.here hexec rfl (hb hbytes d5) rfl ?_
    refine XS.aloadN X3.here hexec rfl (hb hbytes d6) rfl rfl ?_
    refine iconstV X3.here hexec rfl 0 (hb hbytes d7) (by decide) ?_
    refine XS.iloadN X3.here hexec rfl (hb hbytes d8) rfl ?_
    exact Steps.refl _)
  obtain ⟨v6, T6, X6, E6, g6⟩ := X3.callS hexec (Cmp5.law l b A s.heap.size B3 o 0 len) hown (wks W (staticW U16 115 Cmp5.yN)) (wk W Cmp5.tab) (W := 0) (Nat.le_of_ble_eq_true rfl) (Nat.le_of_ble_eq_true rfl) (Nat.le_refl _) (by show 0 + len + 0 ≤ len; omega) (g := (mkF m 9 #[.val (.ref b), .val (.int (Int32.ofNat o)), .val (.int (Int32.ofNat len)), .val (.ref s.heap.size), .unset, .unset] [.int (Int32.ofNat len), .int (Int32.ofNat 0), .ref s.heap.size, .int (Int32.ofNat o), .ref b])) rfl (by rw [hml]; rfl) c5 (argsL := [.ref b, .int (Int32.ofNat o), .ref s.heap.size, .int (Int32.ofNat 0), .int (Int32.ofNat len)]) (rest := []) rfl rfl (by show 2 * 0 + 0 ≤ _; decide) (hb hbytes d9) (⟨rfl, hA3, ba3, hne, l1, by rw [bs3]; simp, hp⟩)
  obtain ⟨rfl, B6, p6, f6⟩ := E6
  have c7 : Steps p.tables e below (s₁.setTop (entryFrame m #[.ref b, .int (Int32.ofNat o), .int (Int32.ofNat len)] 6)) (T6.setTop (mkF m 12 #[.val (.ref b), .val (.int (Int32.ofNat o)), .val (.int (Int32.ofNat len)), .val (.ref s.heap.size), .unset, .unset] [.int (Int32.ofNat len)])) := g6
  have c8 : Steps p.tables e below (s₁.setTop (entryFrame m #[.ref b, .int (Int32.ofNat o), .int (Int32.ofNat len)] 6)) (T6.setTop (mkF m 58 #[.val (.ref b), .val (.int (Int32.ofNat o)), .val (.int (Int32.ofNat len)), .val (.ref s.heap.size), .val (.int (Int32.ofNat len)), .unset] [.ref s.heap.size])) := c7.trans (by
    refine XS.istore X6.here hexec rfl (hb hbytes d12) rfl rfl ?_
    refine XS.iload X6.here hexec rfl (hb hbytes d14) rfl ?_
    refine XS.iloadN X6.here hexec rfl (hb hbytes d16) rfl ?_
    refine XS.icmpYes X6.here hexec rfl (pc0 := 17) rfl (hb hbytes d17) rfl (ii_eq_t rfl) (by decide) rfl ?_
    refine XS.aloadN X6.here hexec rfl (hb hbytes d57) rfl rfl ?_
    exact Steps.refl _)
  have X8 := X6.wide (L' := []) (cells' := 1) (slots' := len) (fun x hx hlt => by
    simp only [List.nil_append, copyLocs, List.mem_map, List.mem_range] at hx
    obtain ⟨i, -, rfl⟩ := hx
    exact absurd hlt (Nat.lt_irrefl _)) (Nat.le_refl _) (by omega)
  exact ⟨T6, some (.ref s.heap.size), _, _, _, X8, rfl, rfl, rfl, (fun h => by cases h), ⟨⟨rfl, B6, ba3.like (X3.warmed.alike.symm.trans X6.warmed.alike) p6.1 f6.1 f6.2.1 f6.2.2.1, f6.2.1.trans bv3, by rw [X6.warmed.alike.findClass, f6.1]; exact bf3, by rw [f6.2.2.1, bs3]; simp, fun j hj => by rw [f6.2.2.2 j, if_pos (by omega)]; rfl, kp3.put p6 (Nat.le_refl _)⟩, by rw [p6.2.2, bh3, hh0]; simp⟩, fun fs hl => c8.trans (X8.areturnOut hexec rfl hret rfl (hb hbytes d58) hl)⟩
end Cmp3
namespace CodL
def yN : MethodName := ⟨"java/lang/StringUTF16", "coderFromArrayLen", "([BI)B"⟩
abbrev yB : ByteArray := jdk_52_method_15_code
theorem d0 : decode yB 0 = .ok (.iload_n 1, 1) := by decide +kernel
theorem d1 : decode yB 1 = .ok (.aload_n 0, 1) := by decide +kernel
theorem d2 : decode yB 2 = .ok (.arraylength, 1) := by decide +kernel
theorem d3 : decode yB 3 = .ok (.isub, 1) := by decide +kernel
theorem d4 : decode yB 4 = .ok (.bipush 31, 2) := by decide +kernel
theorem d6 : decode yB 6 = .ok (.iushr, 1) := by decide +kernel
theorem d7 : decode yB 7 = .ok (.i2b, 1) := by decide +kernel
theorem d8 : decode yB 8 = .ok (.ireturn, 1) := by decide +kernel
def site : List Cond := []
def tab : Cond := tabOf yN yB 2 (some .byte) site
def P (d : Addr) (B : Cell) (args : Array Value) (s : State) : Prop := args = #[.ref d, .int (Int32.ofNat B.slots.size)] ∧ Arr .byte d B s
def E (r : Option Value) (s u : State) : Prop := XT.PureE (some (.int 0)) r s u
/-- an array as long as the number of chars: LATIN1 -/
theorem law (l : Launch) (d : Addr) (B : Cell) : Law l yN 2 2 0 0 yB 2 (some .byte) site (P d B) E [] 0 0 := by
  refine Law.of_walk (plainFor_of_name (by decide +kernel)) (by decide +kernel) (by decide +kernel) (by decide) (fun _ _ h => by rw [h.1]; rfl) (fun _ U U' hal hh h => ⟨h.1, h.2.mv hal hh⟩) (fun r U U' V V' h1 hal h2 h => XT.PureE.mv r U U' V V' h1 hal h2 h) ?_
  intro p e s m args below meth c s₁ X0 hexec hbytes hml hret hlk hnm hown hh0 W hP
  obtain ⟨rfl, hB⟩ := hP
  have hB0 := hB.mv X0.warmed.alike hh0
  have c1 : Steps p.tables e below (s₁.setTop (entryFrame m #[.ref d, .int (Int32.ofNat B.slots.size)] 2)) (s₁.setTop (mkF m 0 #[.val (.ref d), .val (.int (Int32.ofNat B.slots.size))] [])) := entry rfl
  have c2 : Steps p.tables e below (s₁.setTop (entryFrame m #[.ref d, .int (Int32.ofNat B.slots.size)] 2)) (s₁.setTop (mkF m 2 #[.val (.ref d), .val (.int (Int32.ofNat B.slots.size))] [.ref d, .int (Int32.ofNat B.slots.size)])) := c1.trans (by
    refine XS.iloadN X0.here hexec rfl (hb hbytes d0) rfl ?_
    refine XS.aloadN X0.here hexec rfl (hb hbytes d1) rfl rfl ?_
    exact Steps.refl _)
  have c3 : Steps p.tables e below (s₁.setTop (entryFrame m #[.ref d, .int (Int32.ofNat B.slots.size)] 2)) (s₁.setTop (mkF m 8 #[.val (.ref d), .val (.int (Int32.ofNat B.slots.size))] [.int (lo8 (ushr (Int32.ofNat B.slots.size - Int32.ofNat B.slots.size) 31))])) := c2.trans (by
    refine X0.alen hexec hB0 rfl rfl (hb hbytes d2) ?_
    refine XS.isub X0.here hexec rfl (hb hbytes d3) rfl ?_
    refine bipushV X0.here hexec rfl 31 (hb hbytes d4) (by decide) ?_
    refine iushr X0.here hexec rfl (hb hbytes d6) rfl ?_
    refine i2b X0.here hexec rfl (hb hbytes d7) rfl ?_
    exact Steps.refl _)
  have e0 : lo8 (ushr (Int32.ofNat B.slots.size - Int32.ofNat B.slots.size) 31) = 0 := by rw [Int32.sub_self]; decide
  rw [e0] at c3
  exact ⟨s₁, some (.int 0), _, _, _, X0, rfl, rfl, rfl, (fun h => by cases h), ⟨rfl, hh0⟩, fun fs hl => c3.trans (X0.ireturnOut hexec hret rfl (Or.inr (Or.inr (Or.inl rfl))) (hb hbytes d8) hl)⟩
end CodL
/-- the String at a is Latin-1 over a new byte[] (the heap's one new cell): the low bytes of the len chars of A from o on; every cell but a is kept -/
def Got (a : Addr) (D : Cell) (fV fC : Field) (A : Cell) (o len : Nat) (r : Option Value) (s u : State) : Prop := r = none ∧ ∃ D' V : Cell, Blank "java/lang/String" a D' u ∧ Same D D' [fV.slot, fC.slot] ∧ D'.slots[fV.slot]? = some (.ref s.heap.size) ∧ D'.slots[fC.slot]? = some (.int 0) ∧ Arr .byte s.heap.size V u ∧ V.vm = .none ∧ u.vm.findClass "[B" = some V.cls ∧ V.slots.size = len ∧ (∀ j, j < len → V.slots[j]? = some (.int (lo8 (cv A (o + j))))) ∧ (∀ (y : Addr) (c : Cell), y ≠ a → s.heap[y]? = some c → u.heap[y]? = some c) ∧ u.heap.size = s.heap.size + 1
theorem Got.mv {a : Addr} {D A : Cell} {fV fC : Field} {o len : Nat} : ∀ r (U U' V V' : State), U'.heap = U.heap → V.vm.Alike V'.vm → V'.heap = V.heap → Got a D fV fC A o len r U V → Got a D fV fC A o len r U' V' :=
  fun r U U' V V' h1 hal h2 ⟨e0, D', X, a1, a2, a3, a4, a5, a6, a7, a8, a9, a10, a11⟩ => ⟨e0, D', X, a1.mv hal h2, a2, by rw [h1]; exact a3, a4, by rw [h1]; exact a5.mv hal h2, a6, by rw [hal.findClass]; exact a7, a8, a9, by rw [h1, h2]; exact a10, by rw [h1, h2]; exact a11⟩
namespace New4
def yN : MethodName := ⟨"java/lang/String", "<init>", "([CIILjava/lang/Void;)V"⟩
abbrev yB : ByteArray := jdk_42_method_149_code
theorem d0 : decode yB 0 = .ok (.aload_n 0, 1) := by decide +kernel
theorem d1 : decode yB 1 = .ok (.invokespecial 1, 3) := by decide +kernel
theorem d4 : decode yB 4 = .ok (.iload_n 3, 1) := by decide +kernel
theorem d5 : decode yB 5 = .ok (.ifCond (.ne) 22, 3) := by decide +kernel
theorem d27 : decode yB 27 = .ok (.getstatic 38, 3) := by decide +kernel
theorem d30 : decode yB 30 = .ok (.ifCond (.eq) 28, 3) := by decide +kernel
theorem d33 : decode yB 33 = .ok (.aload_n 1, 1) := by decide +kernel
theorem d34 : decode yB 34 = .ok (.iload_n 2, 1) := by decide +kernel
theorem d35 : decode yB 35 = .ok (.iload_n 3, 1) := by decide +kernel
theorem d36 : decode yB 36 = .ok (.invokestatic 177, 3) := by decide +kernel
theorem d39 : decode yB 39 = .ok (.astore 5, 2) := by decide +kernel
theorem d41 : decode yB 41 = .ok (.aload_n 0, 1) := by decide +kernel
theorem d42 : decode yB 42 = .ok (.aload 5, 2) := by decide +kernel
theorem d44 : decode yB 44 = .ok (.iload_n 3, 1) := by decide +kernel
theorem d45 : decode yB 45 = .ok (.invokestatic 47, 3) := by decide +kernel
theorem d48 : decode yB 48 = .ok (.putfield 15, 3) := by decide +kernel
theorem d51 : decode yB 51 = .ok (.aload_n 0, 1) := by decide +kernel
theorem d52 : decode yB 52 = .ok (.aload 5, 2) := by decide +kernel
theorem d54 : decode yB 54 = .ok (.putfield 9, 3) := by decide +kernel
theorem d57 : decode yB 57 = .ok (.return_, 1) := by decide +kernel
def site : List Cond := [.fieldLink "java/lang/String" 38 "java/lang/String" "COMPACT_STRINGS" "Z", Cmp3.tab, CodL.tab, .laysFinal "java/lang/String" "java/lang/String" "value" "[B", .fieldLink "java/lang/String" 9 "java/lang/String" "value" "[B", .laysFinal "java/lang/String" "java/lang/String" "coder" "B", .fieldLink "java/lang/String" 15 "java/lang/String" "coder" "B"] ++ objW "java/lang/String" 1 ++ staticW "java/lang/String" 177 Cmp3.yN ++ staticW "java/lang/String" 47 CodL.yN
def tab : Cond := tabOf yN yB 6 none site
def P (a : Addr) (D : Cell) (fV fC : Field) (b : Addr) (A : Cell) (z : Int32) (o len : Nat) (args : Array Value) (s : State) : Prop := args = #[.ref a, .ref b, .int (Int32.ofNat o), .int (Int32.ofNat len), .null] ∧ Blank "java/lang/String" a D s ∧ Found "java/lang/String" "value" "[B" fV s ∧ Found "java/lang/String" "coder" "B" fC s ∧ Ch b A s ∧ StaticIs s "java/lang/String" "COMPACT_STRINGS" "Z" (.int z) ∧ ¬ z = 0 ∧ 0 < len ∧ o + len ≤ A.slots.size ∧ len ≤ 536870912 ∧ ∀ i, i < len → ¬ 255 < cv A (o + i)
def E (a : Addr) (D : Cell) (fV fC : Field) (A : Cell) (o len : Nat) (r : Option Value) (s u : State) : Prop := Got a D fV fC A o len r s u
/-- len > 0, no char of the range above 255: a Latin-1 String of their low bytes -/
theorem law (l : Launch) (a : Addr) (D : Cell) (fV fC : Field) (b : Addr) (A : Cell) (z : Int32) (o len : Nat) : Law l yN 5 4 2 35 yB 6 none site (P a D fV fC b A z o len) (E a D fV fC A o len) [⟨a, fC.slot⟩, ⟨a, fV.slot⟩] 1 len := by
  refine Law.of_walk (plainFor_of_name (by decide +kernel)) (by decide +kernel) (by decide +kernel) (by decide) (fun _ _ h => by rw [h.1]; rfl) (fun _ U U' hal hh h => ⟨h.1, h.2.1.mv hal hh, h.2.2.1.al hal, h.2.2.2.1.al hal, h.2.2.2.2.1.mv hal hh, h.2.2.2.2.2.1.there hal hh, h.2.2.2.2.2.2⟩) (fun r U U' V V' h1 hal h2 h => Got.mv r U U' V V' h1 hal h2 h) ?_
  intro p e s m args below meth c s₁ X0 hexec hbytes hml hret hlk hnm hown hh0 W hP
  obtain ⟨rfl, hB, f1, f2, hA, s1, hz, l0, l1, l2, hp⟩ := hP
  have a31 := hA.1.2.2.2
  have c1 : Steps p.tables e below (s₁.setTop (entryFrame m #[.ref a, .ref b, .int (Int32.ofNat o), .int (Int32.ofNat len), .null] 6)) (s₁.setTop (mkF m 0 #[.val (.ref a), .val (.ref b), .val (.int (Int32.ofNat o)), .val (.int (Int32.ofNat len)), .val .null, .unset] [])) := entry rfl
  have c2 : Steps p.tables e below (s₁.setTop (entryFrame m #[.ref a, .ref b, .int (Int32.ofNat o), .int (Int32.ofNat len), .null] 6)) (s₁.setTop (mkF m 1 #[.val (.ref a), .val (.ref b), .val (.int (Int32.ofNat o)), .val (.int (Int32.ofNat len)), .val .null, .unset] [.ref a])) := c1.trans (by
    refine XS.aloadN X0.here hexec rfl (hb hbytes d0) rfl rfl ?_
    exact Steps.refl _)
  obtain ⟨T3, X3, q3, st3⟩ := X0.oinit hexec hown (wks W (objW "java/lang/String" 1)) (g := (mkF m 1 #[.val (.ref a), .val (.ref b), .val (.int (Int32.ofNat o)), .val (.int (Int32.ofNat len)), .val .null, .unset] [.ref a])) rfl (by rw [hml]; rfl) (rest := []) rfl (hb hbytes d1) (W := 0) (by show 2 * 0 + 0 ≤ _; decide) (Nat.le_of_ble_eq_true rfl) (Nat.le_of_ble_eq_true rfl)
  have hh3 := q3.trans hh0
  have c4 : Steps p.tables e below (s₁.setTop (entryFrame m #[.ref a, .ref b, .int (Int32.ofNat o), .int (Int32.ofNat len), .null] 6)) (T3.setTop (mkF m 27 #[.val (.ref a), .val (.ref b), .val (.int (Int32.ofNat o)), .val (.int (Int32.ofNat len)), .val .null, .unset] [])) := (c2.trans (st3 _ (Steps.refl _))).trans (by
    refine XS.iloadN X3.here hexec rfl (hb hbytes d4) rfl ?_
    refine XS.ifYes X3.here hexec rfl (pc0 := 5) rfl (hb hbytes d5) rfl (i0_ne_t (nz32 (by omega) l0)) (by decide) rfl ?_
    exact Steps.refl _)
  obtain ⟨T5, X5, q5, st5⟩ := X3.sget hexec hown (wk W (.fieldLink "java/lang/String" 38 "java/lang/String" "COMPACT_STRINGS" "Z")) s1 (fun _ _ h => by rw [hh3]; exact h) (g := (mkF m 27 #[.val (.ref a), .val (.ref b), .val (.int (Int32.ofNat o)), .val (.int (Int32.ofNat len)), .val .null, .unset] [])) rfl (hb hbytes d27)
  have hh5 := q5.trans hh3
  have c6 : Steps p.tables e below (s₁.setTop (entryFrame m #[.ref a, .ref b, .int (Int32.ofNat o), .int (Int32.ofNat len), .null] 6)) (T5.setTop (mkF m 30 #[.val (.ref a), .val (.ref b), .val (.int (Int32.ofNat o)), .val (.int (Int32.ofNat len)), .val .null, .unset] [.int z])) := c4.trans (st5 _ (Steps.refl _))
  have c7 : Steps p.tables e below (s₁.setTop (entryFrame m #[.ref a, .ref b, .int (Int32.ofNat o), .int (Int32.ofNat len), .null] 6)) (T5.setTop (mkF m 36 #[.val (.ref a), .val (.ref b), .val (.int (Int32.ofNat o)), .val (.int (Int32.ofNat len)), .val .null, .unset] [.int (Int32.ofNat len), .int (Int32.ofNat o), .ref b])) := c6.trans (by
    refine XS.ifNo X5.here hexec rfl (hb hbytes d30) rfl (i0_eq_f hz) ?_
    refine XS.aloadN X5.here hexec rfl (hb hbytes d33) rfl rfl ?_
    refine XS.iloadN X5.here hexec rfl (hb hbytes d34) rfl ?_
    refine XS.iloadN X5.here hexec rfl (hb hbytes d35) rfl ?_
    exact Steps.refl _)
  obtain ⟨v8, T8, X8, E8, g8⟩ := X5.callS hexec (Cmp3.law l b A o len) hown (wks W (staticW "java/lang/String" 177 Cmp3.yN)) (wk W Cmp3.tab) (W := 0) (Nat.le_of_ble_eq_true rfl) (Nat.le_of_ble_eq_true rfl) (Nat.le_refl _) (by show 0 + len ≤ len; omega) (g := (mkF m 36 #[.val (.ref a), .val (.ref b), .val (.int (Int32.ofNat o)), .val (.int (Int32.ofNat len)), .val .null, .unset] [.int (Int32.ofNat len), .int (Int32.ofNat o), .ref b])) rfl (by rw [hml]; rfl) c7 (argsL := [.ref b, .int (Int32.ofNat o), .int (Int32.ofNat len)]) (rest := []) rfl rfl (by show 2 * 0 + 0 ≤ _; decide) (hb hbytes d36) (⟨rfl, hA.mv X5.warmed.alike hh5, l1, l2, hp⟩)
  obtain ⟨e8, z8⟩ := E8
  obtain ⟨rfl, N, n1, n2, n3, n4, n5, n6⟩ := NewArr.mv _ T5 s _ _ hh5.symm (Vm.Alike.refl _) rfl e8
  rw [hh5] at z8
  have hB1 := hB.keep X8.warmed.alike (n6 _ _ hB.1)
  have hne : s.heap.size ≠ a := (Nat.ne_of_lt (Array.getElem?_eq_some_iff.mp hB.1).1).symm
  have c9 : Steps p.tables e below (s₁.setTop (entryFrame m #[.ref a, .ref b, .int (Int32.ofNat o), .int (Int32.ofNat len), .null] 6)) (T8.setTop (mkF m 39 #[.val (.ref a), .val (.ref b), .val (.int (Int32.ofNat o)), .val (.int (Int32.ofNat len)), .val .null, .unset] [.ref s.heap.size])) := g8
  have c10 : Steps p.tables e below (s₁.setTop (entryFrame m #[.ref a, .ref b, .int (Int32.ofNat o), .int (Int32.ofNat len), .null] 6)) (T8.setTop (mkF m 45 #[.val (.ref a), .val (.ref b), .val (.int (Int32.ofNat o)), .val (.int (Int32.ofNat len)), .val .null, .val (.ref s.heap.size)] [.int (Int32.ofNat N.slots.size), .ref s.heap.size, .ref a])) := by
    have hc : Steps p.tables e below (s₁.setTop (entryFrame m #[.ref a, .ref b, .int (Int32.ofNat o), .int (Int32.ofNat len), .null] 6)) (T8.setTop (mkF m 45 #[.val (.ref a), .val (.ref b), .val (.int (Int32.ofNat o)), .val (.int (Int32.ofNat len)), .val .null, .val (.ref s.heap.size)] [.int (Int32.ofNat len), .ref s.heap.size, .ref a])) := c9.trans (by
      refine XS.astore X8.here hexec rfl (hb hbytes d39) rfl rfl rfl ?_
      refine XS.aloadN X8.here hexec rfl (hb hbytes d41) rfl rfl ?_
      refine XS.aload X8.here hexec rfl (hb hbytes d42) rfl rfl ?_
      refine XS.iloadN X8.here hexec rfl (hb hbytes d44) rfl ?_
      exact Steps.refl _)
    rw [n4]; exact hc
  obtain ⟨v11, T11, X11, E11, g11⟩ := X8.callS hexec (CodL.law l s.heap.size N) hown (wks W (staticW "java/lang/String" 47 CodL.yN)) (wk W CodL.tab) (W := 1) (Nat.le_of_ble_eq_true rfl) (Nat.le_of_ble_eq_true rfl) (Nat.le_refl _) (by show 0 + len + 0 ≤ len; omega) (g := (mkF m 45 #[.val (.ref a), .val (.ref b), .val (.int (Int32.ofNat o)), .val (.int (Int32.ofNat len)), .val .null, .val (.ref s.heap.size)] [.int (Int32.ofNat N.slots.size), .ref s.heap.size, .ref a])) rfl (by rw [hml]; rfl) c10 (argsL := [.ref s.heap.size, .int (Int32.ofNat N.slots.size)]) (rest := [.ref a]) rfl rfl (by show 2 * 0 + (1 + 0) ≤ _; decide) (hb hbytes d45) (⟨rfl, n1⟩)
  obtain ⟨rfl, q11⟩ := E11
  have hB11 := hB1.mv (X8.warmed.alike.symm.trans X11.warmed.alike) q11
  have c12 : Steps p.tables e below (s₁.setTop (entryFrame m #[.ref a, .ref b, .int (Int32.ofNat o), .int (Int32.ofNat len), .null] 6)) (T11.setTop (mkF m 48 #[.val (.ref a), .val (.ref b), .val (.int (Int32.ofNat o)), .val (.int (Int32.ofNat len)), .val .null, .val (.ref s.heap.size)] [.int 0, .ref a])) := g11
  obtain ⟨T13, X13, p13, bl13, sl13, st13⟩ := X11.finit hexec hown (wk W (.fieldLink "java/lang/String" 15 "java/lang/String" "coder" "B")) (Or.inr ⟨_, (wk W (.laysFinal "java/lang/String" "java/lang/String" "coder" "B"))⟩) (Or.inl ⟨rfl, hnm⟩) f2 (Or.inl rfl) hB11 (t := .byte) (by decide +kernel) rfl (g := (mkF m 48 #[.val (.ref a), .val (.ref b), .val (.int (Int32.ofNat o)), .val (.int (Int32.ofNat len)), .val .null, .val (.ref s.heap.size)] [.int 0, .ref a])) rfl (rest := []) rfl (hb hbytes d48)
  have c14 : Steps p.tables e below (s₁.setTop (entryFrame m #[.ref a, .ref b, .int (Int32.ofNat o), .int (Int32.ofNat len), .null] 6)) (T13.setTop (mkF m 54 #[.val (.ref a), .val (.ref b), .val (.int (Int32.ofNat o)), .val (.int (Int32.ofNat len)), .val .null, .val (.ref s.heap.size)] [.ref s.heap.size, .ref a])) := (c12.trans (st13 _ (Steps.refl _))).trans (by
    refine XS.aloadN X13.here hexec rfl (hb hbytes d51) rfl rfl ?_
    refine XS.aload X13.here hexec rfl (hb hbytes d52) rfl rfl ?_
    exact Steps.refl _)
  obtain ⟨T15, X15, p15, bl15, sl15, st15⟩ := X13.finit hexec hown (wk W (.fieldLink "java/lang/String" 9 "java/lang/String" "value" "[B")) (Or.inr ⟨_, (wk W (.laysFinal "java/lang/String" "java/lang/String" "value" "[B"))⟩) (Or.inl ⟨rfl, hnm⟩) f1 (Or.inl rfl) bl13 (t := (.array .byte)) (by decide +kernel) rfl (g := (mkF m 54 #[.val (.ref a), .val (.ref b), .val (.int (Int32.ofNat o)), .val (.int (Int32.ofNat len)), .val .null, .val (.ref s.heap.size)] [.ref s.heap.size, .ref a])) rfl (rest := []) rfl (hb hbytes d54)
  have c16 : Steps p.tables e below (s₁.setTop (entryFrame m #[.ref a, .ref b, .int (Int32.ofNat o), .int (Int32.ofNat len), .null] 6)) (T15.setTop (mkF m 57 #[.val (.ref a), .val (.ref b), .val (.int (Int32.ofNat o)), .val (.int (Int32.ofNat len)), .val .null, .val (.ref s.heap.size)] [])) := c14.trans (st15 _ (Steps.refl _))
  have ap := apart (Or.inr ⟨_, (wk W (.laysFinal "java/lang/String" "java/lang/String" "value" "[B"))⟩) (Or.inr ⟨_, (wk W (.laysFinal "java/lang/String" "java/lang/String" "coder" "B"))⟩) f1 f2 (t₁ := .array .byte) (t₂ := .byte) (by decide +kernel) (by decide +kernel) (by decide)
  have al := X8.warmed.alike.symm.trans X15.warmed.alike
  have n7 : T11.heap[s.heap.size]? = some N := by rw [q11]; exact n1.1
  exact ⟨T15, none, _, _, _, X15, by simp, rfl, by omega, (fun _ => rfl), ⟨rfl, _, N, bl15, ((Same.refl D _).set _ (by simp)).set _ (by simp), sl15, (Cell.slots_setSlot_ne _ ap).trans sl13, n1.keep al (p15.other hne (p13.other hne n7)), n2, by rw [al.findClass]; exact n3, n4, n5, fun y c h1 h2 => p15.other h1 (p13.other h1 (by rw [q11]; exact n6 y c h2)), by rw [p15.2.2, p13.2.2, q11]; exact z8⟩, fun fs hl => c16.trans (X15.returnOut hexec hret (hb hbytes d57) hl)⟩
end New4
namespace New1
def yN : MethodName := ⟨"java/lang/String", "<init>", "([C)V"⟩
abbrev yB : ByteArray := jdk_42_method_3_code
theorem d0 : decode yB 0 = .ok (.aload_n 0, 1) := by decide +kernel
theorem d1 : decode yB 1 = .ok (.aload_n 1, 1) := by decide +kernel
theorem d2 : decode yB 2 = .ok (.iconst 0, 1) := by decide +kernel
theorem d3 : decode yB 3 = .ok (.aload_n 1, 1) := by decide +kernel
theorem d4 : decode yB 4 = .ok (.arraylength, 1) := by decide +kernel
theorem d5 : decode yB 5 = .ok (.aconst_null, 1) := by decide +kernel
theorem d6 : decode yB 6 = .ok (.invokespecial 27, 3) := by decide +kernel
theorem d9 : decode yB 9 = .ok (.return_, 1) := by decide +kernel
def site : List Cond := [New4.tab] ++ initW "java/lang/String" 27 New4.yN
def tab : Cond := tabOf yN yB 2 none site
def P (a : Addr) (D : Cell) (fV fC : Field) (b : Addr) (A : Cell) (z : Int32) (args : Array Value) (s : State) : Prop := args = #[.ref a, .ref b] ∧ Blank "java/lang/String" a D s ∧ Found "java/lang/String" "value" "[B" fV s ∧ Found "java/lang/String" "coder" "B" fC s ∧ Ch b A s ∧ StaticIs s "java/lang/String" "COMPACT_STRINGS" "Z" (.int z) ∧ ¬ z = 0 ∧ 0 < A.slots.size ∧ A.slots.size ≤ 536870912 ∧ ∀ i, i < A.slots.size → ¬ 255 < cv A i
def E (a : Addr) (D : Cell) (fV fC : Field) (A : Cell) (r : Option Value) (s u : State) : Prop := Got a D fV fC A 0 A.slots.size r s u
/-- new String(chars), not empty, no char above 255: a Latin-1 String of their low bytes -/
theorem law (l : Launch) (a : Addr) (D : Cell) (fV fC : Field) (b : Addr) (A : Cell) (z : Int32) : Law l yN 2 1 3 52 yB 2 none site (P a D fV fC b A z) (E a D fV fC A) [⟨a, fC.slot⟩, ⟨a, fV.slot⟩] 1 A.slots.size := by
  refine Law.of_walk (plainFor_of_name (by decide +kernel)) (by decide +kernel) (by decide +kernel) (by decide) (fun _ _ h => by rw [h.1]; rfl) (fun _ U U' hal hh h => ⟨h.1, h.2.1.mv hal hh, h.2.2.1.al hal, h.2.2.2.1.al hal, h.2.2.2.2.1.mv hal hh, h.2.2.2.2.2.1.there hal hh, h.2.2.2.2.2.2⟩) (fun r U U' V V' h1 hal h2 h => Got.mv r U U' V V' h1 hal h2 h) ?_
  intro p e s m args below meth c s₁ X0 hexec hbytes hml hret hlk hnm hown hh0 W hP
  obtain ⟨rfl, hB, f1, f2, hA, s1, hz, l0, l2, hp⟩ := hP
  have c1 : Steps p.tables e below (s₁.setTop (entryFrame m #[.ref a, .ref b] 2)) (s₁.setTop (mkF m 0 #[.val (.ref a), .val (.ref b)] [])) := entry rfl
  have c2 : Steps p.tables e below (s₁.setTop (entryFrame m #[.ref a, .ref b] 2)) (s₁.setTop (mkF m 6 #[.val (.ref a), .val (.ref b)] [.null, .int (Int32.ofNat A.slots.size), .int 0, .ref b, .ref a])) := c1.trans (by
    refine XS.aloadN X0.here hexec rfl (hb hbytes d0) rfl rfl ?_
    refine XS.aloadN X0.here hexec rfl (hb hbytes d1) rfl rfl ?_
    refine iconstV X0.here hexec rfl 0 (hb hbytes d2) (by decide) ?_
    refine XS.aloadN X0.here hexec rfl (hb hbytes d3) rfl rfl ?_
    refine X0.alen hexec (hA.1.mv X0.warmed.alike hh0) rfl rfl (hb hbytes d4) ?_
    refine XS.aconstNull X0.here hexec rfl (hb hbytes d5) ?_
    exact Steps.refl _)
  obtain ⟨v3, T3, X3, E3, g3⟩ := X0.callN hexec (New4.law l a D fV fC b A z 0 A.slots.size) rfl hown (wks W (initW "java/lang/String" 27 New4.yN)) (W New4.tab (by simp only [site, List.mem_cons, List.mem_append, true_or, or_true])) (W := 0) (Nat.le_of_ble_eq_true rfl) (Nat.le_of_ble_eq_true rfl) (Nat.le_refl _) (by show 0 + A.slots.size ≤ A.slots.size; omega) (g := (mkF m 6 #[.val (.ref a), .val (.ref b)] [.null, .int (Int32.ofNat A.slots.size), .int (Int32.ofNat 0), .ref b, .ref a])) rfl (by rw [hml]; rfl) c2 (argsL := [.ref b, .int (Int32.ofNat 0), .int (Int32.ofNat A.slots.size), .null]) (rest := []) rfl rfl (by show 2 * 0 + 0 ≤ _; decide) (hb hbytes d6) (⟨rfl, hB.mv X0.warmed.alike hh0, f1.al X0.warmed.alike, f2.al X0.warmed.alike, hA.mv X0.warmed.alike hh0, s1.there X0.warmed.alike hh0, hz, l0, by omega, l2, fun i hi => by rw [Nat.zero_add]; exact hp i hi⟩)
  have e0 := Got.mv _ s₁ s _ _ hh0.symm (Vm.Alike.refl _) rfl E3
  obtain rfl := e0.1
  have c4 : Steps p.tables e below (s₁.setTop (entryFrame m #[.ref a, .ref b] 2)) (T3.setTop (mkF m 9 #[.val (.ref a), .val (.ref b)] [])) := g3
  exact ⟨T3, none, _, _, _, X3, by simp, rfl, by omega, (fun _ => rfl), e0, fun fs hl => c4.trans (X3.returnOut hexec hret (hb hbytes d9) hl)⟩
theorem pays {l : Launch} {R : Room} {p : Program} {e : Env} {below : List Frame} {s : State} {sargs : Array Value} {len W : Nat} (a : Addr) (D : Cell) (fV fC : Field) (b : Addr) (A : Cell) (z : Int32) (htab : tab.before sargs s = true) (hfr : 4 ≤ R.frames) (hlo : W + 65 ≤ R.locals) :
    Back l R p e below s sargs yN len W (fun A₁ a₁ => A₁.cells + 1 ≤ R.cells ∧ A₁.slots + A.slots.size ≤ R.slots ∧ P a D fV fC b A z a₁ A₁.U) (fun A₁ _ v₁ B₁ => E a D fV fC A v₁ A₁.U B₁.U ∧ B₁.locs = A₁.locs ++ [⟨a, fC.slot⟩, ⟨a, fV.slot⟩] ∧ B₁.cells = A₁.cells + 1 ∧ B₁.slots = A₁.slots + A.slots.size) :=
  (law l a D fV fC b A z).pays htab hfr (by omega)
end New1
/-- the byte, read back as charAt reads it, is the char -/
theorem lo8_mask {x : Int32} (h0 : ¬ x < 0) (h1 : ¬ 255 < x) : lo8 x &&& 255 = x := by
  have t : ∀ k : Fin 256, lo8 (Int32.ofNat k.val) &&& 255 = Int32.ofNat k.val := by decide +kernel
  rw [Int32.lt_iff_toInt_lt] at h0 h1
  have e0 : (0 : Int32).toInt = 0 := rfl
  have e1 : (255 : Int32).toInt = 255 := rfl
  obtain ⟨k, hk⟩ : ∃ k : Nat, x.toInt = k := ⟨x.toInt.toNat, by omega⟩
  have hx : x = Int32.ofNat k := Int32.toInt_inj.mp (by rw [hk, Int32.toInt_ofNat_small (by omega)])
  rw [hx]
  exact t ⟨k, by omega⟩
end StrChars
namespace StrChars.Road
open Jvm Sem ClassFile Op Lib Jvm.Stand Jvm.Free Jvm.Free.XT
open Jvm.Lib.Cold (StaticIs)
abbrev ST : String := "java/lang/String"
/-- every table word that New1's law asks, flat -/
abbrev words : List Jvm.Cond := [.code New1.yN New1.yB 2 none, .initialized ST, .methodLink ST 27 New4.yN, .instanceMethod New4.yN,
  .code New4.yN New4.yB 6 none, .fieldLink ST 38 ST "COMPACT_STRINGS" "Z", .laysFinal ST ST "value" "[B", .fieldLink ST 9 ST "value" "[B", .laysFinal ST ST "coder" "B", .fieldLink ST 15 ST "coder" "B",
  .methodLink ST 1 Lib.objectInit, .instanceMethod Lib.objectInit, .code Lib.objectInit ⟨#[0xb1]⟩ 1 none, .methodLink ST 177 Cmp3.yN, .static Cmp3.yN, .methodLink ST 47 CodL.yN, .static CodL.yN,
  .code Cmp3.yN Cmp3.yB 6 (some (.array .byte)), .initialized U16, .arrayClass .byte, .methodLink U16 115 Cmp5.yN, .static Cmp5.yN, .code Cmp5.yN Cmp5.yB 7 (some .int), .code CodL.yN CodL.yB 2 (some .byte)]
theorem tab_of {a : Array Value} {s : State} (h : ∀ w ∈ words, w.before a s = true) : New1.tab.before a s = true := by
  have h5 : Cmp5.tab.before a s = true := unparts (wk h (.code Cmp5.yN Cmp5.yB 7 (some .int))) (wks h (.initialized Cmp5.yN.cls :: Cmp5.site))
  have hc : CodL.tab.before a s = true := unparts (wk h (.code CodL.yN CodL.yB 2 (some .byte))) (wks h (.initialized CodL.yN.cls :: CodL.site))
  have q5 : ∀ w ∈ Cmp5.tab :: words, w.before a s = true := fun w hw => (List.mem_cons.mp hw).elim (fun e => e ▸ h5) (h w)
  have h3 : Cmp3.tab.before a s = true := unparts (wk q5 (.code Cmp3.yN Cmp3.yB 6 (some (.array .byte)))) (wks q5 (.initialized Cmp3.yN.cls :: Cmp3.site))
  have q3 : ∀ w ∈ Cmp3.tab :: CodL.tab :: words, w.before a s = true := fun w hw => (List.mem_cons.mp hw).elim (fun e => e ▸ h3) fun hw => (List.mem_cons.mp hw).elim (fun e => e ▸ hc) (h w)
  have h4 : New4.tab.before a s = true := unparts (wk q3 (.code New4.yN New4.yB 6 none)) (wks q3 (.initialized New4.yN.cls :: New4.site))
  have q4 : ∀ w ∈ New4.tab :: words, w.before a s = true := fun w hw => (List.mem_cons.mp hw).elim (fun e => e ▸ h4) (h w)
  exact unparts (wk q4 (.code New1.yN New1.yB 2 none)) (wks q4 (.initialized New1.yN.cls :: New1.site))
/-- the words ride from the start Z to the walk's own state -/
theorem moved {Z s : State} {a0 args : Array Value} (hZ : Z.Warmed39 s.vm) (hw : ∀ d ∈ words, d.before a0 Z = true) : ∀ d ∈ words, d.before args s = true := fun d hd => by
  have q := hw d hd
  have t : ∀ d ∈ words, d = .arrayClass .byte ∨ (d.onTables && d.keepsFace) = true := by decide +kernel
  rcases t d hd with rfl | t
  · exact RoadKit.mvA hZ q
  · exact RoadKit.mv hZ q t
/-- WHAT COMES BACK, over the tables of the start Z: h the heap at the call, h' behind it -/
def Q (Z : State) (x : Addr) (A : Cell) (h : Heap) (v : Option Value) (h' : Heap) (L : List Loc) : Prop := v = none ∧ (∀ y ∈ L, y.base = x) ∧ RoadKit.Keep h h' [x] ∧ h'.size = h.size + 1 ∧ RoadKit.Exa Z h' x ST ∧ RoadKit.Fld Z h' x ST "value" "[B" (.ref h.size) ∧ RoadKit.Fld Z h' x ST "coder" "B" (.int 0) ∧
  (∃ V : Cell, RoadKit.Arr Z h' h.size V .byte ∧ V.vm = .none ∧ Z.vm.findClass "[B" = some V.cls ∧ V.slots.size = A.slots.size ∧ ∀ j, j < A.slots.size → V.slots[j]? = some (.int (lo8 (cv A j)))) ∧
  ∀ (O n d : String) (w : Value), RoadKit.Fld Z h x O n d w → RoadKit.slotOf Z O n d ≠ RoadKit.slotOf Z ST "value" "[B" → RoadKit.slotOf Z O n d ≠ RoadKit.slotOf Z ST "coder" "B" → RoadKit.Fld Z h' x O n d w
/-- **new String(chars) AT A CALL, IN THE ROAD'S FORM**: for specialBack behind newO: x the fresh String, b the char[] with the cell A -/
theorem back {p : Program} {l : Launch} {e : Env} {R : Room} {s : State} {args : Array Value} {below : List Frame} {len W : Nat} {Z : State} {a0 : Array Value} {h : Heap} (hZ : Z.Warmed39 s.vm) (hw : ∀ d ∈ words, d.before a0 Z = true) {kI : Nat} (wi : (Jvm.Cond.instantiable ST kI).before a0 Z = true)
    {x b : Addr} {A : Cell} {z : Int32} {v0 c0 : Value} (E : RoadKit.Exa Z h x ST) (V : RoadKit.Fld Z h x ST "value" "[B" v0) (C : RoadKit.Fld Z h x ST "coder" "B" c0) (K : RoadKit.Arr Z h b A .char) (hty : Typed .char A) (S : RoadKit.Sta Z h ST "COMPACT_STRINGS" "Z" (.int z)) (hz : ¬ z = 0)
    (l0 : 0 < A.slots.size) (l2 : A.slots.size ≤ 536870912) (hp : ∀ i, i < A.slots.size → ¬ 255 < cv A i) (hfr : 4 ≤ R.frames) (hlo : W + 65 ≤ R.locals) :
    Back l R p e below s args New1.yN len W (fun P a => a = #[.ref x, .ref b] ∧ P.U.heap = h ∧ P.cells + 1 ≤ R.cells ∧ P.slots + A.slots.size ≤ R.slots)
      (fun P _ v B => ∃ L, Q Z x A h v B.U.heap L ∧ B.locs = P.locs ++ L ∧ B.cells = P.cells + 1 ∧ B.slots = P.slots + A.slots.size) := by
  intro m meth c P g ig mk a X hg hsize hdg hW hn hp'
  obtain ⟨rfl, rfl, r1, r2⟩ := hp'
  have al : Z.vm.Alike P.U.vm := hZ.alike.trans X.warmed.alike
  obtain ⟨D, cfV, kV, iV, fV, hD, gV, stV, knV, obV, asV, slV⟩ := id V
  obtain ⟨D', cfC, kC, iC, fC, hD', gC, stC, -, -, asC, slC⟩ := id C
  cases hD.symm.trans hD'
  obtain ⟨D2, kD, e1, e2, e3, e4, e5⟩ := id E
  cases hD.symm.trans e1
  obtain ⟨c2, k2, i1, i2, i3, -⟩ := Cond.instantiable_spec wi
  cases e2.symm.trans i1
  cases e3.symm.trans i2
  obtain ⟨kU, u1, u2⟩ := al.2.2 _ _ e3
  have hB : Blank ST x D P.U := ⟨hD, ⟨knV, fun q hq => by rw [hq] at obV; cases obV⟩, by rw [al.findClass]; exact e2, kU, u1, by rw [u2]; exact i3, by rw [u2]; exact e5 i3⟩
  have F1 : Found ST "value" "[B" fV P.U := ⟨SBG.found_only al ⟨cfV, kV, iV, gV⟩, stV⟩
  have F2 : Found ST "coder" "B" fC P.U := ⟨SBG.found_only al ⟨cfC, kC, iC, gC⟩, stC⟩
  have hA : Ch b A P.U := ⟨⟨K.1, State.isArrayOf_alike al K.2.1, K.2.2, by omega⟩, hty⟩
  have hS : StaticIs P.U ST "COMPACT_STRINGS" "Z" (.int z) := by
    obtain ⟨cfS, iS, kS, fS, st, cS, t1, t2, t3, t4, t5, t6, t7⟩ := S
    exact StaticIs.there (s := { Z with heap := P.U.heap }) ⟨cfS, iS, kS, fS, st, cS, t1, t2, t3, t4, t5, (fun q => by rw [q] at t6; cases t6), t7⟩ al rfl
  obtain ⟨v, B, X', ⟨⟨hv, E', V', q1, q2, q3, q4, q5, q6, q7, q8, q9, q10, q11⟩, hl, hc, hs⟩, st⟩ := New1.pays x D fV fC b A z (tab_of (moved hZ hw)) hfr hlo m meth c P g ig mk _ X hg hsize hdg hW hn ⟨r1, r2, rfl, hB, F1, F2, hA, hS, hz, l0, l2, hp⟩
  have al' : Z.vm.Alike B.U.vm := hZ.alike.trans X'.warmed.alike
  have hsz : E'.slots.size = D.slots.size := by
    obtain ⟨-, -, -, kB, w1, w2, w3⟩ := q1
    obtain ⟨kB', y1, y2⟩ := al'.2.2 _ _ e3
    rw [q2.2.1] at w1
    cases w1.symm.trans y1
    rw [w3, e5 i3, y2]
  refine ⟨v, B, X', ⟨_, ⟨hv, ?_, ⟨by omega, fun y cy hy hn' => q10 y cy (by simpa using hn') hy, fun y cy hy => ?_⟩, q11, ⟨E', _, q1.1, by rw [q2.2.1]; exact e2, by rw [q2.2.1]; exact e3, by rw [q2.1]; exact obV, fun _ => by rw [hsz]; exact e5 i3⟩,
    ⟨E', cfV, kV, iV, fV, q1.1, gV, stV, by rw [q2.1]; exact knV, by rw [q2.1]; exact obV, by rw [q2.2.1]; exact asV, q3⟩, ⟨E', cfC, kC, iC, fC, q1.1, gC, stC, by rw [q2.1]; exact knV, by rw [q2.1]; exact obV, by rw [q2.2.1]; exact asC, q4⟩,
    ⟨V', ⟨q5.1, State.isArrayOf_alike al'.symm q5.2.1, q5.2.2.1⟩, q6, by rw [← al'.findClass]; exact q7, q8, fun j hj => by have := q9 j hj; rwa [Nat.zero_add] at this⟩, fun O n d w F n1 n2 => ?_⟩, hl, hc, hs⟩, st⟩
  · intro y hy
    simp only [List.mem_cons, List.not_mem_nil, or_false] at hy
    rcases hy with rfl | rfl <;> rfl
  · by_cases q : y = x
    · subst q
      cases hD.symm.trans hy
      exact ⟨E', q1.1, q2.2.1, q2.1, hsz⟩
    · exact ⟨cy, q10 y cy q hy, rfl, rfl, rfl⟩
  · obtain ⟨D3, cf, k, i, f, g1, g2, g3, g4, g5, g6, g7⟩ := F
    cases hD.symm.trans g1
    simp only [RoadKit.slotOf, g2, gV, gC, Option.map_some, Option.getD_some] at n1 n2
    exact ⟨E', cf, k, i, f, q1.1, g2, g3, by rw [q2.1]; exact g4, by rw [q2.1]; exact g5, by rw [q2.2.1]; exact g6, by rw [q2.2.2 f.slot (by simp [n1, n2])]; exact g7⟩
end StrChars.Road
namespace StrChars.Road
open Jvm Sem ClassFile Op Lib Jvm.Stand Jvm.Free Jvm.Free.XT
/-- WHAT COMES BACK, the byte[] as a list of values -/
def QA (Z : State) (x : Addr) (zn : Int32) (cs : List Int32) (h : Heap) (v : Option Value) (h' : Heap) (L : List Loc) : Prop := v = none ∧ (∀ y ∈ L, y.base = x) ∧ RoadKit.Keep h h' [x] ∧ h'.size = h.size + 1 ∧ RoadKit.Exa Z h' x ST ∧ RoadKit.Fld Z h' x ST "value" "[B" (.ref h.size) ∧ RoadKit.Fld Z h' x ST "coder" "B" (.int 0) ∧
  (∃ kb, Z.vm.findClass "[B" = some kb ∧ RoadKit.Arv Z h' h.size kb .byte zn (cs.map fun c => .int (lo8 c)) (.int 0)) ∧
  ∀ (O n d : String) (w : Value), RoadKit.Fld Z h x O n d w → RoadKit.slotOf Z O n d ≠ RoadKit.slotOf Z ST "value" "[B" → RoadKit.slotOf Z O n d ≠ RoadKit.slotOf Z ST "coder" "B" → RoadKit.Fld Z h' x O n d w
/-- **new String(chars) AT A CALL, THE ARRAYS AS LISTS**: the char[] at b holds cs, not empty, no char above 255 -/
theorem backArv {p : Program} {l : Launch} {e : Env} {R : Room} {s : State} {args : Array Value} {below : List Frame} {len W : Nat} {Z : State} {a0 : Array Value} {h : Heap} (hZ : Z.Warmed39 s.vm) (hw : ∀ d ∈ words, d.before a0 Z = true) {kI : Nat} (wi : (Jvm.Cond.instantiable ST kI).before a0 Z = true)
    {x b : Addr} {k : ClassId} {zn z : Int32} {cs : List Int32} {dv v0 c0 : Value} (E : RoadKit.Exa Z h x ST) (V : RoadKit.Fld Z h x ST "value" "[B" v0) (C : RoadKit.Fld Z h x ST "coder" "B" c0) (K : RoadKit.Arv Z h b k .char zn (cs.map Value.int) dv) (S : RoadKit.Sta Z h ST "COMPACT_STRINGS" "Z" (.int z)) (hz : ¬ z = 0)
    (hlen : zn.toNatClampNeg = cs.length) (h0 : 0 < cs.length) (hbig : cs.length ≤ 536870912) (hall : ∀ c ∈ cs, ¬ 255 < c) (hfr : 4 ≤ R.frames) (hlo : W + 65 ≤ R.locals) :
    Back l R p e below s args New1.yN len W (fun P a => a = #[.ref x, .ref b] ∧ P.U.heap = h ∧ P.cells + 1 ≤ R.cells ∧ P.slots + cs.length ≤ R.slots)
      (fun P _ v B => ∃ L, QA Z x zn cs h v B.U.heap L ∧ B.locs = P.locs ++ L ∧ B.cells = P.cells + 1 ∧ B.slots = P.slots + cs.length) := by
  obtain ⟨A, K1, K2, K3, K4, K5, K6⟩ := K
  have e : A.slots.size = cs.length := K3.trans hlen
  have hat : ∀ (i : Nat) (hi : i < cs.length), A.slots[i]? = some (.int cs[i]) := fun i hi => by rw [K5 i (by omega)]; simp [List.getD_eq_getElem?_getD, hi]
  have hcv : ∀ (i : Nat) (hi : i < cs.length), cv A i = cs[i] := fun i hi => by unfold cv; rw [hat i hi]
  have hty : Typed .char A := fun i v hv => by
    have hi : i < A.slots.size := (Array.getElem?_eq_some_iff.mp hv).1
    have q := K5 i hi
    rw [hv] at q
    rw [Option.some.inj q]
    exact K6 i hi
  refine Back.mono (back hZ hw wi E V C K1 hty S hz (by omega) (by omega) (fun i hi => by rw [hcv i (by omega)]; exact hall _ (List.getElem_mem _)) hfr hlo) (fun P a hp => ⟨hp.1, hp.2.1, hp.2.2.1, by rw [e]; exact hp.2.2.2⟩) (fun P a v B hp hq => ?_)
  obtain ⟨L, ⟨q1, q2, q3, q4, q5, q6, q7, ⟨V', v1, v2, v3, v4, v5⟩, q9⟩, hl, hc, hs⟩ := hq
  refine ⟨L, ⟨q1, q2, q3, q4, q5, q6, q7, ⟨V'.cls, v3, V', v1, rfl, by rw [v4, e, hlen], K4, fun i hi => ?_, fun i hi => ?_⟩, q9⟩, hl, hc, by rw [hs, e]⟩
  · have hi' : i < cs.length := by omega
    rw [v5 i (by omega), hcv i hi']; simp [List.getD_eq_getElem?_getD, hi']
  · have hi' : i < cs.length := by omega
    simp only [List.getD_eq_getElem?_getD, List.getElem?_map, List.getElem?_eq_getElem hi', Option.map_some, Option.getD_some]
    exact fits_lo8 _
end StrChars.Road
namespace StrChars.Road
open Jvm Sem ClassFile Op Lib Jvm.Stand Jvm.Free Jvm.Free.XT
/-- WHAT COMES BACK, in the writer's own shape -/
def QV (Z : State) (x : Addr) (N : Int32) (bs : List Int32) (h : Heap) (n0 : Nat) (v : Option Value) (h' : Heap) (L : List Loc) : Prop := v = none ∧ RoadKit.Fr n0 L ∧ RoadKit.Keep h h' [x] ∧ RoadKit.Exa Z h' x ST ∧ RoadKit.Fld Z h' x ST "coder" "B" (.int 0) ∧
  ∃ (t : Addr) (kb : ClassId), n0 ≤ t ∧ h.size ≤ t ∧ ¬ t = x ∧ RoadKit.Fld Z h' x ST "value" "[B" (.ref t) ∧ RoadKit.Arv Z h' t kb .byte N (bs.map Value.int) (.int 0)
/-- **new String(chars) AT A CALL, FOR THE WRITER**: a char[] of n known ints, each 0 to 255 -/
theorem backV {p : Program} {l : Launch} {e : Env} {R : Room} {s : State} {args : Array Value} {below : List Frame} {len W : Nat} {Z : State} {a0 : Array Value} {h : Heap} (hZ : Z.Warmed39 s.vm) (hw : ∀ d ∈ words, d.before a0 Z = true) {kI : Nat} (wi : (Jvm.Cond.instantiable ST kI).before a0 Z = true)
    {x b : Addr} {kC : ClassId} {cs bs : List Int32} {d v0 c0 : Value} {z N : Int32} {n n0 : Nat} (hx0 : n0 ≤ x) (hh0 : n0 ≤ h.size) (E : RoadKit.Exa Z h x ST) (V : RoadKit.Fld Z h x ST "value" "[B" v0) (C : RoadKit.Fld Z h x ST "coder" "B" c0) (K : RoadKit.Arv Z h b kC .char N (cs.map Value.int) d) (S : RoadKit.Sta Z h ST "COMPACT_STRINGS" "Z" (.int z)) (hz : ¬ z = 0)
    (hn : cs.length = n) (hN : N = Int32.ofNat n) (l0 : 0 < n) (l2 : n ≤ 4000) (hp : ∀ c ∈ cs, ¬ c < 0 ∧ ¬ (255 : Int32) < c) (hb : bs = cs.map (fun c => c.toInt8.toInt32)) (hfr : 4 ≤ R.frames) (hlo : W + 65 ≤ R.locals) :
    Back l R p e below s args (⟨"java/lang/String", "<init>", "([C)V"⟩ : MethodName) len W (fun P a => a = #[.ref x, .ref b] ∧ P.U.heap = h ∧ P.cells + 1 ≤ R.cells ∧ P.slots + n ≤ R.slots)
      (fun P _ v B => ∃ L, QV Z x N bs h n0 v B.U.heap L ∧ B.locs = P.locs ++ L ∧ B.cells = P.cells + 1 ∧ B.slots = P.slots + n) := by
  subst hn hN hb
  refine Back.mono (backArv hZ hw wi E V C K S hz (n32 (by omega)) l0 (by omega) (fun c hc => (hp c hc).2) hfr hlo) (fun P a hp => hp) (fun P a v B hp hq => ?_)
  obtain ⟨L, ⟨q1, q2, q3, q4, q5, q6, q7, ⟨kb, v1, v2⟩, q9⟩, hl, hc, hs⟩ := hq
  exact ⟨L, ⟨q1, fun y hy => by rw [q2 y hy]; exact hx0, q3, q5, q7, h.size, kb, hh0, Nat.le_refl _, Nat.ne_of_gt E.lt, q6, by rw [List.map_map]; exact v2⟩, hl, hc, hs⟩
end StrChars.Road
namespace StrChars
open Jvm Sem ClassFile Op Lib Jvm.Stand Jvm.Free.XT Jvm.Free.ALB Jvm.Free.JM Jvm.Free
open Jvm.Lib.Cold (StaticIs)
def hi8 (x : Int32) : Int32 := lo8 (x >>> ((8 : Int32) &&& 31))
/-- what StringUTF16.getChar makes of two bytes -/
def pairCh (u v : Int32) : Int32 := (((u &&& 255) <<< ((0 : Int32) &&& 31)) ||| ((v &&& 255) <<< ((8 : Int32) &&& 31))).toUInt32.toUInt16.toUInt32.toInt32
theorem lo8_and (x : Int32) : (lo8 x &&& 255).toBitVec.toNat = x.toBitVec.toNat % 256 := by
  have h : (lo8 x).toBitVec = (x.toBitVec.signExtend 8).signExtend 32 := by rw [lo8, Int8.toBitVec_toInt32, Int32.toBitVec_toInt8]
  rw [Int32.toBitVec_and, BitVec.toNat_and, h]
  have e : ((x.toBitVec.signExtend 8).signExtend 32).toNat % 256 = x.toBitVec.toNat % 256 := by
    rw [BitVec.toNat_signExtend]
    have hlt := x.toBitVec.isLt
    simp only [BitVec.toNat_setWidth, BitVec.toNat_signExtend]
    split <;> split <;> omega
  rw [← e]
  exact Nat.and_two_pow_sub_one_eq_mod _ 8
theorem pair_says {c : Int32} (h0 : ¬ c < 0) (h1 : ¬ 65535 < c) : pairCh (lo8 c) (hi8 c) = c := by
  rw [Int32.lt_iff_toInt_lt] at h0 h1
  have e0 : (0 : Int32).toInt = 0 := rfl
  have e1 : (65535 : Int32).toInt = 65535 := rfl
  have hc : c.toInt = c.toBitVec.toNat := by
    have := c.toBitVec.isLt
    have e : c.toInt = c.toBitVec.toInt := rfl
    rw [e] at h0 h1
    rw [e]
    rw [BitVec.toInt_eq_toNat_cond] at h0 h1 ⊢
    split at h0 <;> split <;> omega
  have hn : c.toBitVec.toNat < 65536 := by omega
  have a1 := lo8_and c
  have a2 : (hi8 c &&& 255).toBitVec.toNat = c.toBitVec.toNat / 256 := by
    rw [hi8, lo8_and]
    have e : ((8 : Int32) &&& 31) = 8 := by decide
    rw [e, Int32.toBitVec_shiftRight]
    have e2 : ((8 : Int32).toBitVec.smod 32) = 8#32 := by decide
    rw [e2, BitVec.sshiftRight_eq', BitVec.toNat_sshiftRight_of_msb_false (by rw [BitVec.msb_eq_false_iff_two_mul_lt]; omega)]
    show c.toBitVec.toNat >>> 8 % 256 = _
    rw [Nat.shiftRight_eq_div_pow]
    omega
  unfold pairCh
  apply Int32.toBitVec_inj.mp
  apply BitVec.eq_of_toNat_eq
  have f0 : ((0 : Int32) &&& 31) = 0 := by decide
  have f8 : ((8 : Int32) &&& 31) = 8 := by decide
  rw [f0, f8]
  have g : (((lo8 c &&& 255) <<< (0 : Int32)) ||| ((hi8 c &&& 255) <<< (8 : Int32))).toBitVec.toNat = c.toBitVec.toNat := by
    rw [Int32.toBitVec_or, Int32.toBitVec_shiftLeft, Int32.toBitVec_shiftLeft]
    have s0 : ((0 : Int32).toBitVec.smod 32) = 0#32 := by decide
    have s8 : ((8 : Int32).toBitVec.smod 32) = 8#32 := by decide
    rw [s0, s8, BitVec.toNat_or]
    simp only [BitVec.shiftLeft_eq', BitVec.toNat_shiftLeft, a1, a2]
    show (c.toBitVec.toNat % 256) <<< 0 % 2 ^ 32 ||| (c.toBitVec.toNat / 256) <<< 8 % 2 ^ 32 = _
    rw [Nat.shiftLeft_zero, Nat.mod_eq_of_lt (show c.toBitVec.toNat % 256 < 2 ^ 32 by omega), Nat.mod_eq_of_lt (show (c.toBitVec.toNat / 256) <<< 8 < 2 ^ 32 by rw [Nat.shiftLeft_eq]; omega), Nat.or_comm, ← Nat.shiftLeft_add_eq_or_of_lt (by omega), Nat.shiftLeft_eq]
    omega
  show BitVec.toNat (((((lo8 c &&& 255) <<< (0 : Int32)) ||| ((hi8 c &&& 255) <<< (8 : Int32))).toBitVec.setWidth 16).setWidth 32) = _
  rw [BitVec.toNat_setWidth, BitVec.toNat_setWidth, g]
  omega
end StrChars
namespace StrChars
open Jvm Sem ClassFile Op Lib Jvm.Stand Jvm.Free.XT Jvm.Free.ALB Jvm.Free.JM Jvm.Free
open Jvm.Lib.Cold (StaticIs)
/-- the array's cell V codes the n chars f 0 .. f (n - 1) by the coder cd, as the JDK does: coder 1 just where some char is above 255 -/
def Cod (cd : Int32) (n : Nat) (f : Nat → Int32) (V : Cell) : Prop := (cd = 0 ∧ V.slots.size = n ∧ ∀ j, j < n → V.slots[j]? = some (.int (lo8 (f j))) ∧ ¬ 255 < f j) ∨ (cd = 1 ∧ V.slots.size = 2 * n ∧ (∀ j, j < n → V.slots[2 * j]? = some (.int (lo8 (f j))) ∧ V.slots[2 * j + 1]? = some (.int (hi8 (f j)))) ∧ ∃ j, j < n ∧ 255 < f j)
/-- **x is a String of the n chars f 0 .. f (n - 1)**, Latin-1 or UTF-16; its array at t has the cell V -/
def Txt (x t : Addr) (V : Cell) (cd : Int32) (n : Nat) (f : Nat → Int32) (U : State) : Prop := Exact "java/lang/String" x U ∧ Has x "java/lang/String" "value" "[B" (.ref t) U ∧ Has x "java/lang/String" "coder" "B" (.int cd) U ∧ XT.Arr .byte t V U ∧ Cod cd n f V ∧ ∀ j, j < n → ¬ f j < 0 ∧ ¬ 65535 < f j
theorem Txt.mv {x t : Addr} {V : Cell} {cd : Int32} {n : Nat} {f : Nat → Int32} {U U' : State} (h : Txt x t V cd n f U) (hal : U.vm.Alike U'.vm) (hh : U'.heap = U.heap) : Txt x t V cd n f U' := ⟨h.1.mv hal hh, h.2.1.mv hal hh, h.2.2.1.mv hal hh, h.2.2.2.1.mv hal hh, h.2.2.2.2⟩
end StrChars
namespace StrChars.Road
open Jvm Sem ClassFile Op Lib Jvm.Stand Jvm.Free Jvm.Free.XT
open Jvm.Lib.Cold (StaticIs)
theorem consq {a : Array Value} {s : State} {c : Jvm.Cond} {L : List Jvm.Cond} (h0 : c.before a s = true) (h : ∀ w ∈ L, w.before a s = true) : ∀ w ∈ c :: L, w.before a s = true := fun w hw => (List.mem_cons.mp hw).elim (fun e => e ▸ h0) (h w)
/-- the bytes of the chars cs, low before high -/
def wideBytes : List Int32 → List Value
  | [] => []
  | c :: cs => .int (lo8 c) :: .int (hi8 c) :: wideBytes cs
theorem wide_lo (d : Value) : ∀ (cs : List Int32) (j : Nat), j < cs.length → (wideBytes cs).getD (2 * j) d = .int (lo8 (cs.getD j 0))
  | [], j, h => absurd h (Nat.not_lt_zero j)
  | c :: cs, 0, _ => rfl
  | c :: cs, j + 1, h => by
    have q := wide_lo d cs j (by simpa using h)
    rw [show 2 * (j + 1) = 2 * j + 1 + 1 from by omega]
    simpa [wideBytes] using q
theorem wide_hi (d : Value) : ∀ (cs : List Int32) (j : Nat), j < cs.length → (wideBytes cs).getD (2 * j + 1) d = .int (hi8 (cs.getD j 0))
  | [], j, h => absurd h (Nat.not_lt_zero j)
  | c :: cs, 0, _ => rfl
  | c :: cs, j + 1, h => by
    have q := wide_hi d cs j (by simpa using h)
    rw [show 2 * (j + 1) + 1 = 2 * j + 1 + 1 + 1 from by omega]
    simpa [wideBytes] using q
theorem low_at (d : Value) (cs : List Int32) (j : Nat) (h : j < cs.length) : (cs.map fun c => Value.int (lo8 c)).getD j d = .int (lo8 (cs.getD j 0)) := by
  simp [List.getD_eq_getElem?_getD, h]
/-- an array of N2 bytes vs codes the chars cs by the coder cd -/
def CodA (cs : List Int32) (cd N2 : Int32) (vs : List Value) : Prop := (cd = 0 ∧ N2 = Int32.ofNat cs.length ∧ vs = (cs.map fun c => Value.int (lo8 c)) ∧ ∀ c ∈ cs, ¬ 255 < c) ∨ (cd = 1 ∧ N2 = Int32.ofNat (2 * cs.length) ∧ vs = wideBytes cs ∧ ∃ c ∈ cs, 255 < c)
theorem CodA.cod {cs : List Int32} {cd N2 : Int32} {vs : List Value} {V : Cell} (h : CodA cs cd N2 vs) (hn : 2 * cs.length < 2 ^ 31) (hs : V.slots.size = N2.toNatClampNeg) (hv : RoadKit.Has V vs (.int 0)) : Cod cd cs.length (fun j => cs.getD j 0) V := by
  rcases h with ⟨rfl, rfl, rfl, h⟩ | ⟨rfl, rfl, rfl, c, hc, hw⟩
  · rw [n32 (by omega)] at hs
    exact Or.inl ⟨rfl, hs, fun j hj => ⟨by rw [hv j (by omega), low_at _ _ _ hj], by
      have e : cs.getD j 0 = cs[j] := by simp [List.getD_eq_getElem?_getD, hj]
      show ¬ 255 < cs.getD j 0
      rw [e]; exact h _ (List.getElem_mem _)⟩⟩
  · rw [n32 (by omega)] at hs
    obtain ⟨j, hj, rfl⟩ := List.getElem_of_mem hc
    exact Or.inr ⟨rfl, hs, fun j hj => ⟨by rw [hv _ (by omega), wide_lo _ _ _ hj], by rw [hv _ (by omega), wide_hi _ _ _ hj]⟩, j, hj, by
      have e : cs.getD j 0 = cs[j] := by simp [List.getD_eq_getElem?_getD, hj]
      show 255 < cs.getD j 0
      rw [e]; exact hw⟩
/-- an object of exactly java/lang/String, its two fields found: as the laws ask it -/
theorem strObj {Z U : State} {a0 : Array Value} {kI : Nat} (wi : (Jvm.Cond.instantiable ST kI).before a0 Z = true) (al : Z.vm.Alike U.vm) {x : Addr} {v0 c0 : Value} (E : RoadKit.Exa Z U.heap x ST) (V : RoadKit.Fld Z U.heap x ST "value" "[B" v0) (C : RoadKit.Fld Z U.heap x ST "coder" "B" c0) :
    ∃ (D : Cell) (fV fC : Field), Blank ST x D U ∧ Found ST "value" "[B" fV U ∧ Found ST "coder" "B" fC U ∧ D.slots[fV.slot]? = some v0 ∧ D.slots[fC.slot]? = some c0 ∧ RoadKit.slotOf Z ST "value" "[B" = fV.slot ∧ RoadKit.slotOf Z ST "coder" "B" = fC.slot := by
  obtain ⟨D, cfV, kV, iV, fV, hD, gV, stV, knV, obV, asV, slV⟩ := V
  obtain ⟨D', cfC, kC, iC, fC, hD', gC, stC, -, -, asC, slC⟩ := C
  cases hD.symm.trans hD'
  obtain ⟨D2, kD, e1, e2, e3, e4, e5⟩ := E
  cases hD.symm.trans e1
  obtain ⟨c2, k2, i1, i2, i3, -⟩ := Cond.instantiable_spec wi
  cases e2.symm.trans i1
  cases e3.symm.trans i2
  obtain ⟨kU, u1, u2⟩ := al.2.2 _ _ e3
  exact ⟨D, fV, fC, ⟨hD, ⟨knV, fun q hq => by rw [hq] at obV; cases obV⟩, by rw [al.findClass]; exact e2, kU, u1, by rw [u2]; exact i3, by rw [u2]; exact e5 i3⟩, ⟨SBG.found_only al ⟨cfV, kV, iV, gV⟩, stV⟩, ⟨SBG.found_only al ⟨cfC, kC, iC, gC⟩, stC⟩, slV, slC, by simp [RoadKit.slotOf, gV], by simp [RoadKit.slotOf, gC]⟩
theorem sta_is {Z U : State} (al : Z.vm.Alike U.vm) {C n d : String} {v : Value} (S : RoadKit.Sta Z U.heap C n d v) : StaticIs U C n d v := by
  obtain ⟨cfS, iS, kS, fS, st, cS, t1, t2, t3, t4, t5, t6, t7⟩ := S
  exact StaticIs.there (s := { Z with heap := U.heap }) ⟨cfS, iS, kS, fS, st, cS, t1, t2, t3, t4, t5, (fun q => by rw [q] at t6; cases t6), t7⟩ al rfl
end StrChars.Road
namespace StrChars
open Jvm Sem ClassFile Op Lib Jvm.Stand Jvm.Free.XT Jvm.Free.ALB Jvm.Free.JM Jvm.Free
open Jvm.Lib.Cold (StaticIs)
/-- what place i of a byte[]'s cell holds -/
def yv (A : Cell) (i : Nat) : Int32 := match A.slots[i]? with | some (.int x) => x | _ => 0
theorem yv_get {a : Addr} {A : Cell} {U : State} (h : XT.Arr .byte a A U) (ht : Typed .byte A) {i : Nat} (hi : i < A.slots.size) : A.slots[i]? = some (.int (yv A i)) := by
  have e := Array.getElem?_eq_getElem hi
  have f := ht i _ e
  unfold yv; rw [e]
  generalize A.slots[i] = v at f
  cases v <;> simp [fits] at f ⊢
/-- the two arrays are equal, place for place -/
def EqC (A B : Cell) : Prop := A.slots.size = B.slots.size ∧ ∀ i, i < A.slots.size → yv A i = yv B i
/-- a boolean that says whether p -/
def Says01 (q : Prop) (r : Option Value) (s u : State) : Prop := ∃ v : Int32, r = some (.int v) ∧ u.heap = s.heap ∧ ((v = 1 ∧ q) ∨ (v = 0 ∧ ¬ q))
theorem Says01.mv {q : Prop} : ∀ r (U U' V V' : State), U'.heap = U.heap → V.vm.Alike V'.vm → V'.heap = V.heap → Says01 q r U V → Says01 q r U' V' :=
  fun r U U' V V' h1 _ h2 ⟨v, a, b, c⟩ => ⟨v, a, by rw [h1, h2]; exact b, c⟩
namespace LEq
def yN : MethodName := ⟨"java/lang/StringLatin1", "equals", "([B[B)Z"⟩
abbrev yB : ByteArray := jdk_43_method_13_code
theorem d0 : decode yB 0 = .ok (.aload_n 0, 1) := by decide +kernel
theorem d1 : decode yB 1 = .ok (.arraylength, 1) := by decide +kernel
theorem d2 : decode yB 2 = .ok (.aload_n 1, 1) := by decide +kernel
theorem d3 : decode yB 3 = .ok (.arraylength, 1) := by decide +kernel
theorem d4 : decode yB 4 = .ok (.if_icmp (.ne) 30, 3) := by decide +kernel
theorem d7 : decode yB 7 = .ok (.iconst 0, 1) := by decide +kernel
theorem d8 : decode yB 8 = .ok (.istore_n 2, 1) := by decide +kernel
theorem d9 : decode yB 9 = .ok (.iload_n 2, 1) := by decide +kernel
theorem d10 : decode yB 10 = .ok (.aload_n 0, 1) := by decide +kernel
theorem d11 : decode yB 11 = .ok (.arraylength, 1) := by decide +kernel
theorem d12 : decode yB 12 = .ok (.if_icmp (.ge) 20, 3) := by decide +kernel
theorem d15 : decode yB 15 = .ok (.aload_n 0, 1) := by decide +kernel
theorem d16 : decode yB 16 = .ok (.iload_n 2, 1) := by decide +kernel
theorem d17 : decode yB 17 = .ok (.baload, 1) := by decide +kernel
theorem d18 : decode yB 18 = .ok (.aload_n 1, 1) := by decide +kernel
theorem d19 : decode yB 19 = .ok (.iload_n 2, 1) := by decide +kernel
theorem d20 : decode yB 20 = .ok (.baload, 1) := by decide +kernel
theorem d21 : decode yB 21 = .ok (.if_icmp (.eq) 5, 3) := by decide +kernel
theorem d24 : decode yB 24 = .ok (.iconst 0, 1) := by decide +kernel
theorem d25 : decode yB 25 = .ok (.ireturn, 1) := by decide +kernel
theorem d26 : decode yB 26 = .ok (.iinc 2 1, 3) := by decide +kernel
theorem d29 : decode yB 29 = .ok (.goto (-20), 3) := by decide +kernel
theorem d32 : decode yB 32 = .ok (.iconst 1, 1) := by decide +kernel
theorem d33 : decode yB 33 = .ok (.ireturn, 1) := by decide +kernel
theorem d34 : decode yB 34 = .ok (.iconst 0, 1) := by decide +kernel
theorem d35 : decode yB 35 = .ok (.ireturn, 1) := by decide +kernel
def site : List Cond := []
def tab : Cond := tabOf yN yB 3 (some .boolean) site
def P (a : Addr) (A : Cell) (b : Addr) (B : Cell) (args : Array Value) (s : State) : Prop := args = #[.ref a, .ref b] ∧ XT.Arr .byte a A s ∧ Typed .byte A ∧ XT.Arr .byte b B s ∧ Typed .byte B
/-- whether two byte[] are equal, place for place -/
theorem law (l : Launch) (a : Addr) (A : Cell) (b : Addr) (B : Cell) : Law l yN 2 2 0 0 yB 3 (some .boolean) site (P a A b B) (Says01 (EqC A B)) [] 0 0 := by
  refine Law.of_walk (plainFor_of_name (by decide +kernel)) (by decide +kernel) (by decide +kernel) (by decide) (fun _ _ h => by rw [h.1]; rfl) (fun _ U U' hal hh h => ⟨h.1, h.2.1.mv hal hh, h.2.2.1, h.2.2.2.1.mv hal hh, h.2.2.2.2⟩) (fun r U U' V V' h1 hal h2 h => Says01.mv r U U' V V' h1 hal h2 h) ?_
  intro p e s m args below meth c s₁ X0 hexec hbytes hml hret hlk hnm hown hh0 W hP
  obtain ⟨rfl, hA, tA, hB, tB⟩ := hP
  have a31 := hA.2.2.2
  have b31 := hB.2.2.2
  have hA0 := hA.mv X0.warmed.alike hh0
  have hB0 := hB.mv X0.warmed.alike hh0
  have c1 : Steps p.tables e below (s₁.setTop (entryFrame m #[.ref a, .ref b] 3)) (s₁.setTop (mkF m 0 #[.val (.ref a), .val (.ref b), .unset] [])) := entry rfl
  have c2 : Steps p.tables e below (s₁.setTop (entryFrame m #[.ref a, .ref b] 3)) (s₁.setTop (mkF m 4 #[.val (.ref a), .val (.ref b), .unset] [.int (Int32.ofNat B.slots.size), .int (Int32.ofNat A.slots.size)])) := c1.trans (by
    refine XS.aloadN X0.here hexec rfl (hb hbytes d0) rfl rfl ?_
    refine X0.alen hexec hA0 rfl rfl (hb hbytes d1) ?_
    refine XS.aloadN X0.here hexec rfl (hb hbytes d2) rfl rfl ?_
    refine X0.alen hexec hB0 rfl rfl (hb hbytes d3) ?_
    exact Steps.refl _)
  by_cases hs : A.slots.size = B.slots.size
  · have c3 : Steps p.tables e below (s₁.setTop (entryFrame m #[.ref a, .ref b] 3)) (s₁.setTop (mkF m 9 #[.val (.ref a), .val (.ref b), .val (.int 0)] [])) := c2.trans (by
      refine XS.icmpNo X0.here hexec rfl (hb hbytes d4) rfl (ii_ne_f (by rw [hs])) ?_
      refine iconstV X0.here hexec rfl 0 (hb hbytes d7) (by decide) ?_
      refine XS.istoreN X0.here hexec rfl (hb hbytes d8) rfl rfl ?_
      exact Steps.refl _)
    have loop : ∀ (r i : Nat), i + r = A.slots.size → (∀ j, j < i → yv A j = yv B j) → Steps p.tables e below (s₁.setTop (entryFrame m #[.ref a, .ref b] 3)) (s₁.setTop (mkF m 9 #[.val (.ref a), .val (.ref b), .val (.int (Int32.ofNat i))] [])) → ∃ (pc : Nat) (Ls : Array Slot) (v : Int32), (pc = 25 ∨ pc = 33) ∧ ((v = 1 ∧ EqC A B) ∨ (v = 0 ∧ ¬ EqC A B)) ∧ Steps p.tables e below (s₁.setTop (entryFrame m #[.ref a, .ref b] 3)) (s₁.setTop (mkF m pc Ls [.int v])) := by
      intro r
      induction r with
      | zero =>
        intro i hi he cl
        exact ⟨33, _, 1, Or.inr rfl, Or.inl ⟨rfl, hs, fun j hj => he j (by omega)⟩, cl.trans (by
          refine XS.iloadN X0.here hexec rfl (hb hbytes d9) rfl ?_
          refine XS.aloadN X0.here hexec rfl (hb hbytes d10) rfl rfl ?_
          refine X0.alen hexec hA0 rfl rfl (hb hbytes d11) ?_
          refine XS.icmpYes X0.here hexec rfl (pc0 := 12) rfl (hb hbytes d12) rfl (ii_ge_t (nlt32 (by omega) (by omega))) (by decide) rfl ?_
          refine iconstV X0.here hexec rfl 1 (hb hbytes d32) (by decide) ?_
          exact Steps.refl _)⟩
      | succ r ih =>
        intro i hi he cl
        have c4 : Steps p.tables e below (s₁.setTop (entryFrame m #[.ref a, .ref b] 3)) (s₁.setTop (mkF m 21 #[.val (.ref a), .val (.ref b), .val (.int (Int32.ofNat i))] [.int (yv B i), .int (yv A i)])) := cl.trans (by
          refine XS.iloadN X0.here hexec rfl (hb hbytes d9) rfl ?_
          refine XS.aloadN X0.here hexec rfl (hb hbytes d10) rfl rfl ?_
          refine X0.alen hexec hA0 rfl rfl (hb hbytes d11) ?_
          refine XS.icmpNo X0.here hexec rfl (hb hbytes d12) rfl (ii_ge_f (lt32 (by omega) (by omega))) ?_
          refine XS.aloadN X0.here hexec rfl (hb hbytes d15) rfl rfl ?_
          refine XS.iloadN X0.here hexec rfl (hb hbytes d16) rfl ?_
          refine X0.aget hexec hA0 rfl (yv_get hA tA (i := i) (by omega)) rfl rfl (hb hbytes d17) ?_
          refine XS.aloadN X0.here hexec rfl (hb hbytes d18) rfl rfl ?_
          refine XS.iloadN X0.here hexec rfl (hb hbytes d19) rfl ?_
          refine X0.aget hexec hB0 rfl (yv_get hB tB (i := i) (by omega)) rfl rfl (hb hbytes d20) ?_
          exact Steps.refl _)
        by_cases hv : yv A i = yv B i
        · have c5 : Steps p.tables e below (s₁.setTop (entryFrame m #[.ref a, .ref b] 3)) (s₁.setTop (mkF m 9 #[.val (.ref a), .val (.ref b), .val (.int (Int32.ofNat i + 1))] [])) := c4.trans (by
            refine XS.icmpYes X0.here hexec rfl (pc0 := 21) rfl (hb hbytes d21) rfl (ii_eq_t hv) (by decide) rfl ?_
            refine iincV X0.here hexec rfl 1 (hb hbytes d26) (by decide) rfl rfl ?_
            refine XS.goto X0.here hexec rfl (pc0 := 29) rfl (hb hbytes d29) (by decide) rfl ?_
            exact Steps.refl _)
          rw [succ32] at c5
          exact ih (i + 1) (by omega) (fun j hj => by
            by_cases e : j = i
            · rw [e]; exact hv
            · exact he j (by omega)) c5
        · exact ⟨25, _, 0, Or.inl rfl, Or.inr ⟨rfl, fun q => hv (q.2 i (by omega))⟩, c4.trans (by
            refine XS.icmpNo X0.here hexec rfl (hb hbytes d21) rfl (ii_eq_f hv) ?_
            refine iconstV X0.here hexec rfl 0 (hb hbytes d24) (by decide) ?_
            exact Steps.refl _)⟩
    obtain ⟨pc, Ls, v, hpc, hv, cz⟩ := loop A.slots.size 0 (by omega) (fun j hj => absurd hj (Nat.not_lt_zero j)) c3
    have nv : narrow .boolean (.int v) = .int v := by rcases hv with ⟨rfl, -⟩ | ⟨rfl, -⟩ <;> rfl
    rcases hpc with rfl | rfl
    · exact ⟨s₁, some (.int v), _, _, _, X0, rfl, rfl, rfl, (fun h => by cases h), ⟨v, rfl, hh0, hv⟩, fun fs hl => cz.trans (X0.ireturnOut hexec hret nv (Or.inr (Or.inl rfl)) (hb hbytes d25) hl)⟩
    · exact ⟨s₁, some (.int v), _, _, _, X0, rfl, rfl, rfl, (fun h => by cases h), ⟨v, rfl, hh0, hv⟩, fun fs hl => cz.trans (X0.ireturnOut hexec hret nv (Or.inr (Or.inl rfl)) (hb hbytes d33) hl)⟩
  · have c3 : Steps p.tables e below (s₁.setTop (entryFrame m #[.ref a, .ref b] 3)) (s₁.setTop (mkF m 35 #[.val (.ref a), .val (.ref b), .unset] [.int 0])) := c2.trans (by
      refine XS.icmpYes X0.here hexec rfl (pc0 := 4) rfl (hb hbytes d4) rfl (ii_ne_t (ne32 a31 b31 hs)) (by decide) rfl ?_
      refine iconstV X0.here hexec rfl 0 (hb hbytes d34) (by decide) ?_
      exact Steps.refl _)
    exact ⟨s₁, some (.int 0), _, _, _, X0, rfl, rfl, rfl, (fun h => by cases h), ⟨0, rfl, hh0, Or.inr ⟨rfl, fun q => hs q.1⟩⟩, fun fs hl => c3.trans (X0.ireturnOut hexec hret rfl (Or.inr (Or.inl rfl)) (hb hbytes d35) hl)⟩
end LEq
theorem Cod.ty {cd : Int32} {n : Nat} {f : Nat → Int32} {V : Cell} (h : Cod cd n f V) : Typed .byte V := fun i v hv => by
  have hi : i < V.slots.size := (Array.getElem?_eq_some_iff.mp hv).1
  rcases h with ⟨-, k1, k2⟩ | ⟨-, k1, k2, -⟩
  · rw [(k2 i (by omega)).1] at hv; cases hv; exact fits_lo8 _
  · rcases Nat.mod_two_eq_zero_or_one i with e | e
    · obtain ⟨j, rfl⟩ : ∃ j, i = 2 * j := ⟨i / 2, by omega⟩
      rw [(k2 j (by omega)).1] at hv; cases hv; exact fits_lo8 _
    · obtain ⟨j, rfl⟩ : ∃ j, i = 2 * j + 1 := ⟨i / 2, by omega⟩
      rw [(k2 j (by omega)).2] at hv; cases hv; exact fits_lo8 _
/-- the same text -/
def SameT (n : Nat) (f : Nat → Int32) (k : Nat) (g : Nat → Int32) : Prop := n = k ∧ ∀ j, j < n → f j = g j
theorem lo8_inj {x y : Int32} (h0 : ¬ x < 0) (h1 : ¬ 255 < x) (k0 : ¬ y < 0) (k1 : ¬ 255 < y) (h : lo8 x = lo8 y) : x = y := by
  rw [← lo8_mask h0 h1, ← lo8_mask k0 k1, h]
/-- arrays coded by one coder are equal just where the texts are -/
theorem Cod.eqv {cd : Int32} {n k : Nat} {f g : Nat → Int32} {V V' : Cell} (h : Cod cd n f V) (h' : Cod cd k g V') (hf : ∀ j, j < n → ¬ f j < 0 ∧ ¬ 65535 < f j) (hg : ∀ j, j < k → ¬ g j < 0 ∧ ¬ 65535 < g j) : EqC V V' ↔ SameT n f k g := by
  have yvv : ∀ {W : Cell} {i : Nat} {x : Int32}, W.slots[i]? = some (.int x) → yv W i = x := fun q => by unfold yv; rw [q]
  rcases h with ⟨rfl, k1, k2⟩ | ⟨rfl, k1, k2, -⟩
  · rcases h' with ⟨-, m1, m2⟩ | ⟨e, -⟩
    · constructor
      · rintro ⟨e1, e2⟩
        refine ⟨by omega, fun j hj => ?_⟩
        have q := e2 j (by omega)
        rw [yvv (k2 j hj).1, yvv (m2 j (by omega)).1] at q
        exact lo8_inj (hf j hj).1 (k2 j hj).2 (hg j (by omega)).1 (m2 j (by omega)).2 q
      · rintro ⟨rfl, e2⟩
        refine ⟨by omega, fun j hj => ?_⟩
        rw [yvv (k2 j (by omega)).1, yvv (m2 j (by omega)).1, e2 j (by omega)]
    · exact absurd e (by decide)
  · rcases h' with ⟨e, -⟩ | ⟨-, m1, m2, -⟩
    · exact absurd e (by decide)
    · constructor
      · rintro ⟨e1, e2⟩
        refine ⟨by omega, fun j hj => ?_⟩
        have q1 := e2 (2 * j) (by omega)
        have q2 := e2 (2 * j + 1) (by omega)
        rw [yvv (k2 j hj).1, yvv (m2 j (by omega)).1] at q1
        rw [yvv (k2 j hj).2, yvv (m2 j (by omega)).2] at q2
        rw [← pair_says (hf j hj).1 (hf j hj).2, ← pair_says (hg j (by omega)).1 (hg j (by omega)).2, q1, q2]
      · rintro ⟨rfl, e2⟩
        refine ⟨by omega, fun i hi => ?_⟩
        rcases Nat.mod_two_eq_zero_or_one i with e | e
        · obtain ⟨j, rfl⟩ : ∃ j, i = 2 * j := ⟨i / 2, by omega⟩
          rw [yvv (k2 j (by omega)).1, yvv (m2 j (by omega)).1, e2 j (by omega)]
        · obtain ⟨j, rfl⟩ : ∃ j, i = 2 * j + 1 := ⟨i / 2, by omega⟩
          rw [yvv (k2 j (by omega)).2, yvv (m2 j (by omega)).2, e2 j (by omega)]
/-- two codings differ: so do the texts -/
theorem Cod.dif {cd cd' : Int32} {n k : Nat} {f g : Nat → Int32} {V V' : Cell} (h : Cod cd n f V) (h' : Cod cd' k g V') (hne : ¬ cd = cd') : ¬ SameT n f k g := by
  rintro ⟨rfl, e⟩
  rcases h with ⟨rfl, -, k2⟩ | ⟨rfl, -, -, j, hj, hw⟩
  · rcases h' with ⟨rfl, -⟩ | ⟨-, -, -, j, hj, hw⟩
    · exact hne rfl
    · exact (k2 j hj).2 (by rw [e j hj]; exact hw)
  · rcases h' with ⟨-, -, m2⟩ | ⟨rfl, -⟩
    · exact (m2 j hj).2 (by rw [← e j hj]; exact hw)
    · exact hne rfl
/-- an object of exactly C is an instance of C -/
theorem cinst {p : Program} {l : Launch} {e : Env} {R : Room} {s : State} {m : MethodId} {args : Array Value} {below : List Frame} {meth : Method} {c : Code} {T : State} {locs : List Loc} {cells slots : Nat} (X : Stand p l e R s m args below meth c T locs cells slots) (hexec : p.tables.exec = Jvm.exec) {own C : String} {index : Nat} (hown : s.vm.findClass own = some m.cls) (hlink : (Cond.classLink own index C).before args s = true) {a : Addr} (hE : Exact C a T)
    {g : JFrame} (hg : g.method = m) {rest : List Value} (hstack : g.stack = .ref a :: rest) (hdg : decode c.code g.pc = .ok (.instanceof index, 3)) :
    ∃ T', Stand p l e R s m args below meth c T' locs cells slots ∧ T'.heap = T.heap ∧ ∀ target, Steps p.tables e below (T'.setTop { g with pc := g.pc + 3, stack := .int 1 :: rest }) target → Steps p.tables e below (T.setTop g) target := by
  obtain ⟨cB, h1, D, h2, h3, h4⟩ := hE
  have h1' : s.vm.findClass C = some cB := by rw [← X.warmed.alike.findClass]; exact h1
  obtain ⟨vm', X', st⟩ := X.instanceofYes hexec hown hlink h2 h4 h1' (by rw [h3]; exact Jvm.Free.SB.assignable_self _ _) hg hstack hdg
  exact ⟨_, X', rfl, st⟩
theorem cself {p : Program} {l : Launch} {e : Env} {R : Room} {s : State} {m : MethodId} {args : Array Value} {below : List Frame} {meth : Method} {c : Code} {T : State} {locs : List Loc} {cells slots : Nat} (X : Stand p l e R s m args below meth c T locs cells slots) (hexec : p.tables.exec = Jvm.exec) {own C : String} {index : Nat} (hown : s.vm.findClass own = some m.cls) (hlink : (Cond.classLink own index C).before args s = true) {a : Addr} (hE : Exact C a T)
    {g : JFrame} (hg : g.method = m) {rest : List Value} (hstack : g.stack = .ref a :: rest) (hdg : decode c.code g.pc = .ok (.checkcast index, 3)) :
    ∃ T', Stand p l e R s m args below meth c T' locs cells slots ∧ T'.heap = T.heap ∧ ∀ target, Steps p.tables e below (T'.setTop { g with pc := g.pc + 3, stack := .ref a :: rest }) target → Steps p.tables e below (T.setTop g) target := by
  obtain ⟨cB, h1, D, h2, h3, h4⟩ := hE
  have h1' : s.vm.findClass C = some cB := by rw [← X.warmed.alike.findClass]; exact h1
  obtain ⟨vm', X', st⟩ := X.checkcastYes hexec hown hlink h2 h4 h1' (by rw [h3]; exact Jvm.Free.SB.assignable_self _ _) hg hstack hdg
  exact ⟨_, X', rfl, fun t h => st t (by rw [← hstack] at h; exact h)⟩
namespace SEq
def yN : MethodName := ⟨"java/lang/String", "equals", "(Ljava/lang/Object;)Z"⟩
abbrev yB : ByteArray := jdk_42_method_66_code
theorem d0 : decode yB 0 = .ok (.aload_n 0, 1) := by decide +kernel
theorem d1 : decode yB 1 = .ok (.aload_n 1, 1) := by decide +kernel
theorem d2 : decode yB 2 = .ok (.if_acmp (.ne) 5, 3) := by decide +kernel
theorem d5 : decode yB 5 = .ok (.iconst 1, 1) := by decide +kernel
theorem d6 : decode yB 6 = .ok (.ireturn, 1) := by decide +kernel
theorem d7 : decode yB 7 = .ok (.aload_n 1, 1) := by decide +kernel
theorem d8 : decode yB 8 = .ok (.instanceof 10, 3) := by decide +kernel
theorem d11 : decode yB 11 = .ok (.ifCond (.eq) 43, 3) := by decide +kernel
theorem d14 : decode yB 14 = .ok (.aload_n 1, 1) := by decide +kernel
theorem d15 : decode yB 15 = .ok (.checkcast 10, 3) := by decide +kernel
theorem d18 : decode yB 18 = .ok (.astore_n 2, 1) := by decide +kernel
theorem d19 : decode yB 19 = .ok (.getstatic 38, 3) := by decide +kernel
theorem d22 : decode yB 22 = .ok (.ifCond (.eq) 14, 3) := by decide +kernel
theorem d25 : decode yB 25 = .ok (.aload_n 0, 1) := by decide +kernel
theorem d26 : decode yB 26 = .ok (.getfield 15, 3) := by decide +kernel
theorem d29 : decode yB 29 = .ok (.aload_n 2, 1) := by decide +kernel
theorem d30 : decode yB 30 = .ok (.getfield 15, 3) := by decide +kernel
theorem d33 : decode yB 33 = .ok (.if_icmp (.ne) 21, 3) := by decide +kernel
theorem d36 : decode yB 36 = .ok (.aload_n 0, 1) := by decide +kernel
theorem d37 : decode yB 37 = .ok (.getfield 9, 3) := by decide +kernel
theorem d40 : decode yB 40 = .ok (.aload_n 2, 1) := by decide +kernel
theorem d41 : decode yB 41 = .ok (.getfield 9, 3) := by decide +kernel
theorem d44 : decode yB 44 = .ok (.invokestatic 541, 3) := by decide +kernel
theorem d47 : decode yB 47 = .ok (.ifCond (.eq) 7, 3) := by decide +kernel
theorem d50 : decode yB 50 = .ok (.iconst 1, 1) := by decide +kernel
theorem d51 : decode yB 51 = .ok (.goto 4, 3) := by decide +kernel
theorem d54 : decode yB 54 = .ok (.iconst 0, 1) := by decide +kernel
theorem d55 : decode yB 55 = .ok (.ireturn, 1) := by decide +kernel
def site : List Cond := [.classLink "java/lang/String" 10 "java/lang/String", .fieldLink "java/lang/String" 38 "java/lang/String" "COMPACT_STRINGS" "Z", .fieldLink "java/lang/String" 15 "java/lang/String" "coder" "B", .fieldLink "java/lang/String" 9 "java/lang/String" "value" "[B", LEq.tab] ++ staticW "java/lang/String" 541 LEq.yN
def tab : Cond := tabOf yN yB 3 (some .boolean) site
def P (x t : Addr) (V : Cell) (cd : Int32) (n : Nat) (f : Nat → Int32) (y t' : Addr) (V' : Cell) (cd' : Int32) (k : Nat) (g : Nat → Int32) (z : Int32) (args : Array Value) (s : State) : Prop := args = #[.ref x, .ref y] ∧ Txt x t V cd n f s ∧ Txt y t' V' cd' k g s ∧ StaticIs s "java/lang/String" "COMPACT_STRINGS" "Z" (.int z) ∧ ¬ z = 0
/-- equals(Object) of two Strings: whether the texts are the same -/
theorem law (l : Launch) (x t : Addr) (V : Cell) (cd : Int32) (n : Nat) (f : Nat → Int32) (y t' : Addr) (V' : Cell) (cd' : Int32) (k : Nat) (g : Nat → Int32) (z : Int32) : Law l yN 2 1 1 14 yB 3 (some .boolean) site (P x t V cd n f y t' V' cd' k g z) (Says01 (SameT n f k g)) [] 0 0 := by
  refine Law.of_walk (plainFor_of_name (by decide +kernel)) (by decide +kernel) (by decide +kernel) (by decide) (fun _ _ h => by rw [h.1]; rfl) (fun _ U U' hal hh h => ⟨h.1, h.2.1.mv hal hh, h.2.2.1.mv hal hh, h.2.2.2.1.there hal hh, h.2.2.2.2⟩) (fun r U U' V V' h1 hal h2 h => Says01.mv r U U' V V' h1 hal h2 h) ?_
  intro p e s m args below meth c s₁ X0 hexec hbytes hml hret hlk hnm hown hh0 W hP
  obtain ⟨rfl, hx, hy, s1, hz⟩ := hP
  have c1 : Steps p.tables e below (s₁.setTop (entryFrame m #[.ref x, .ref y] 3)) (s₁.setTop (mkF m 2 #[.val (.ref x), .val (.ref y), .unset] [.ref y, .ref x])) := Steps.trans (entry rfl) (by
    show Steps p.tables e below (s₁.setTop (mkF m 0 #[.val (.ref x), .val (.ref y), .unset] [])) _
    refine XS.aloadN X0.here hexec rfl (hb hbytes d0) rfl rfl ?_
    refine XS.aloadN X0.here hexec rfl (hb hbytes d1) rfl rfl ?_
    exact Steps.refl _)
  by_cases hxy : x = y
  · have c2 : Steps p.tables e below (s₁.setTop (entryFrame m #[.ref x, .ref y] 3)) (s₁.setTop (mkF m 6 #[.val (.ref x), .val (.ref y), .unset] [.int 1])) := c1.trans (by
      refine acmpNo X0.here hexec rfl (hb hbytes d2) rfl rfl rfl (by simp [acmp, hxy]) ?_
      refine iconstV X0.here hexec rfl 1 (hb hbytes d5) (by decide) ?_
      exact Steps.refl _)
    subst hxy
    have ec : cd = cd' := by
      obtain ⟨D, fd, a1, a2, a3⟩ := hx.2.2.1
      obtain ⟨D', fd', b1, b2, b3⟩ := hy.2.2.1
      cases a1.symm.trans b1
      obtain ⟨q1, q2, q3, q4⟩ := a2.1
      obtain ⟨r1, r2, r3, r4⟩ := b2.1
      cases q4.symm.trans r4
      cases a3.symm.trans b3; rfl
    have et : t = t' := by
      obtain ⟨D, fd, a1, a2, a3⟩ := hx.2.1
      obtain ⟨D', fd', b1, b2, b3⟩ := hy.2.1
      cases a1.symm.trans b1
      obtain ⟨q1, q2, q3, q4⟩ := a2.1
      obtain ⟨r1, r2, r3, r4⟩ := b2.1
      cases q4.symm.trans r4
      cases a3.symm.trans b3; rfl
    subst ec et
    have ev : V = V' := by cases hx.2.2.2.1.1.symm.trans hy.2.2.2.1.1; rfl
    subst ev
    have hs : SameT n f k g := (Cod.eqv hx.2.2.2.2.1 hy.2.2.2.2.1 hx.2.2.2.2.2 hy.2.2.2.2.2).mp ⟨rfl, fun _ _ => rfl⟩
    exact ⟨s₁, some (.int 1), _, _, _, X0, rfl, rfl, rfl, (fun h => by cases h), ⟨1, rfl, hh0, Or.inl ⟨rfl, hs⟩⟩, fun fs hl => c2.trans (X0.ireturnOut hexec hret rfl (Or.inr (Or.inl rfl)) (hb hbytes d6) hl)⟩
  · have c2 : Steps p.tables e below (s₁.setTop (entryFrame m #[.ref x, .ref y] 3)) (s₁.setTop (mkF m 8 #[.val (.ref x), .val (.ref y), .unset] [.ref y])) := c1.trans (by
      refine acmpYes X0.here hexec rfl (pc0 := 2) rfl (hb hbytes d2) rfl rfl rfl (by simp [acmp, hxy]) (by decide) rfl ?_
      refine XS.aloadN X0.here hexec rfl (hb hbytes d7) rfl rfl ?_
      exact Steps.refl _)
    obtain ⟨T3, X3, q3, st3⟩ := cinst X0 hexec hown (wk W (.classLink "java/lang/String" 10 "java/lang/String")) (hy.mv X0.warmed.alike hh0).1 (g := (mkF m 8 #[.val (.ref x), .val (.ref y), .unset] [.ref y])) rfl (rest := []) rfl (hb hbytes d8)
    have hh3 := q3.trans hh0
    have c4 : Steps p.tables e below (s₁.setTop (entryFrame m #[.ref x, .ref y] 3)) (T3.setTop (mkF m 15 #[.val (.ref x), .val (.ref y), .unset] [.ref y])) := (c2.trans (st3 _ (Steps.refl _))).trans (by
      refine XS.ifNo X3.here hexec rfl (hb hbytes d11) rfl (i0_eq_f (by decide)) ?_
      refine XS.aloadN X3.here hexec rfl (hb hbytes d14) rfl rfl ?_
      exact Steps.refl _)
    obtain ⟨T5, X5, q5, st5⟩ := cself X3 hexec hown (wk W (.classLink "java/lang/String" 10 "java/lang/String")) (hy.mv X3.warmed.alike hh3).1 (g := (mkF m 15 #[.val (.ref x), .val (.ref y), .unset] [.ref y])) rfl (rest := []) rfl (hb hbytes d15)
    have hh5 := q5.trans hh3
    have c6 : Steps p.tables e below (s₁.setTop (entryFrame m #[.ref x, .ref y] 3)) (T5.setTop (mkF m 19 #[.val (.ref x), .val (.ref y), .val (.ref y)] [])) := (c4.trans (st5 _ (Steps.refl _))).trans (by
      refine XS.astoreN X5.here hexec rfl (hb hbytes d18) rfl rfl rfl ?_
      exact Steps.refl _)
    obtain ⟨T7, X7, q7, st7⟩ := X5.sget hexec hown (wk W (.fieldLink "java/lang/String" 38 "java/lang/String" "COMPACT_STRINGS" "Z")) s1 (fun _ _ h => by rw [hh5]; exact h) (g := (mkF m 19 #[.val (.ref x), .val (.ref y), .val (.ref y)] [])) rfl (hb hbytes d19)
    have hh7 := q7.trans hh5
    have c8 : Steps p.tables e below (s₁.setTop (entryFrame m #[.ref x, .ref y] 3)) (T7.setTop (mkF m 26 #[.val (.ref x), .val (.ref y), .val (.ref y)] [.ref x])) := (c6.trans (st7 _ (Steps.refl _))).trans (by
      refine XS.ifNo X7.here hexec rfl (hb hbytes d22) rfl (i0_eq_f hz) ?_
      refine XS.aloadN X7.here hexec rfl (hb hbytes d25) rfl rfl ?_
      exact Steps.refl _)
    obtain ⟨T9, X9, q9, st9⟩ := X7.hget hexec hown (wk W (.fieldLink "java/lang/String" 15 "java/lang/String" "coder" "B")) (hx.mv X7.warmed.alike hh7).2.2.1 (g := (mkF m 26 #[.val (.ref x), .val (.ref y), .val (.ref y)] [.ref x])) rfl (rest := []) rfl (hb hbytes d26)
    have hh9 := q9.trans hh7
    have c10 : Steps p.tables e below (s₁.setTop (entryFrame m #[.ref x, .ref y] 3)) (T9.setTop (mkF m 30 #[.val (.ref x), .val (.ref y), .val (.ref y)] [.ref y, .int cd])) := (c8.trans (st9 _ (Steps.refl _))).trans (by
      refine XS.aloadN X9.here hexec rfl (hb hbytes d29) rfl rfl ?_
      exact Steps.refl _)
    obtain ⟨T11, X11, q11, st11⟩ := X9.hget hexec hown (wk W (.fieldLink "java/lang/String" 15 "java/lang/String" "coder" "B")) (hy.mv X9.warmed.alike hh9).2.2.1 (g := (mkF m 30 #[.val (.ref x), .val (.ref y), .val (.ref y)] [.ref y, .int cd])) rfl (rest := [.int cd]) rfl (hb hbytes d30)
    have hh11 := q11.trans hh9
    have c12 : Steps p.tables e below (s₁.setTop (entryFrame m #[.ref x, .ref y] 3)) (T11.setTop (mkF m 33 #[.val (.ref x), .val (.ref y), .val (.ref y)] [.int cd', .int cd])) := c10.trans (st11 _ (Steps.refl _))
    by_cases hcd : cd = cd'
    · subst hcd
      have c13 : Steps p.tables e below (s₁.setTop (entryFrame m #[.ref x, .ref y] 3)) (T11.setTop (mkF m 37 #[.val (.ref x), .val (.ref y), .val (.ref y)] [.ref x])) := c12.trans (by
        refine XS.icmpNo X11.here hexec rfl (hb hbytes d33) rfl (ii_ne_f rfl) ?_
        refine XS.aloadN X11.here hexec rfl (hb hbytes d36) rfl rfl ?_
        exact Steps.refl _)
      obtain ⟨T14, X14, q14, st14⟩ := X11.hget hexec hown (wk W (.fieldLink "java/lang/String" 9 "java/lang/String" "value" "[B")) (hx.mv X11.warmed.alike hh11).2.1 (g := (mkF m 37 #[.val (.ref x), .val (.ref y), .val (.ref y)] [.ref x])) rfl (rest := []) rfl (hb hbytes d37)
      have hh14 := q14.trans hh11
      have c15 : Steps p.tables e below (s₁.setTop (entryFrame m #[.ref x, .ref y] 3)) (T14.setTop (mkF m 41 #[.val (.ref x), .val (.ref y), .val (.ref y)] [.ref y, .ref t])) := (c13.trans (st14 _ (Steps.refl _))).trans (by
        refine XS.aloadN X14.here hexec rfl (hb hbytes d40) rfl rfl ?_
        exact Steps.refl _)
      obtain ⟨T16, X16, q16, st16⟩ := X14.hget hexec hown (wk W (.fieldLink "java/lang/String" 9 "java/lang/String" "value" "[B")) (hy.mv X14.warmed.alike hh14).2.1 (g := (mkF m 41 #[.val (.ref x), .val (.ref y), .val (.ref y)] [.ref y, .ref t])) rfl (rest := [.ref t]) rfl (hb hbytes d41)
      have hh16 := q16.trans hh14
      have c17 : Steps p.tables e below (s₁.setTop (entryFrame m #[.ref x, .ref y] 3)) (T16.setTop (mkF m 44 #[.val (.ref x), .val (.ref y), .val (.ref y)] [.ref t', .ref t])) := c15.trans (st16 _ (Steps.refl _))
      obtain ⟨v18, T18, X18, E18, g18⟩ := X16.callS hexec (LEq.law l t V t' V') hown (wks W (staticW "java/lang/String" 541 LEq.yN)) (wk W LEq.tab) (W := 0) (Nat.le_of_ble_eq_true rfl) (Nat.le_of_ble_eq_true rfl) (Nat.le_refl _) (Nat.le_refl _) (g := (mkF m 44 #[.val (.ref x), .val (.ref y), .val (.ref y)] [.ref t', .ref t])) rfl (by rw [hml]; rfl) c17 (argsL := [.ref t, .ref t']) (rest := []) rfl rfl (by show 2 * 0 + 0 ≤ _; decide) (hb hbytes d44) (⟨rfl, hx.2.2.2.1.mv X16.warmed.alike hh16, hx.2.2.2.2.1.ty, hy.2.2.2.1.mv X16.warmed.alike hh16, hy.2.2.2.2.1.ty⟩)
      obtain ⟨v, rfl, q18, hv⟩ := E18
      have iff := Cod.eqv hx.2.2.2.2.1 hy.2.2.2.2.1 hx.2.2.2.2.2 hy.2.2.2.2.2
      rcases hv with ⟨rfl, he⟩ | ⟨rfl, he⟩
      · have c19 : Steps p.tables e below (s₁.setTop (entryFrame m #[.ref x, .ref y] 3)) (T18.setTop (mkF m 55 #[.val (.ref x), .val (.ref y), .val (.ref y)] [.int 1])) := Steps.trans g18 (by
          refine XS.ifNo X18.here hexec rfl (hb hbytes d47) rfl (i0_eq_f (by decide)) ?_
          refine iconstV X18.here hexec rfl 1 (hb hbytes d50) (by decide) ?_
          refine XS.goto X18.here hexec rfl (pc0 := 51) rfl (hb hbytes d51) (by decide) rfl ?_
          exact Steps.refl _)
        exact ⟨T18, some (.int 1), _, _, _, X18, rfl, rfl, rfl, (fun h => by cases h), ⟨1, rfl, q18.trans hh16, Or.inl ⟨rfl, iff.mp he⟩⟩, fun fs hl => c19.trans (X18.ireturnOut hexec hret rfl (Or.inr (Or.inl rfl)) (hb hbytes d55) hl)⟩
      · have c19 : Steps p.tables e below (s₁.setTop (entryFrame m #[.ref x, .ref y] 3)) (T18.setTop (mkF m 55 #[.val (.ref x), .val (.ref y), .val (.ref y)] [.int 0])) := Steps.trans g18 (by
          refine XS.ifYes X18.here hexec rfl (pc0 := 47) rfl (hb hbytes d47) rfl (i0_eq_t rfl) (by decide) rfl ?_
          refine iconstV X18.here hexec rfl 0 (hb hbytes d54) (by decide) ?_
          exact Steps.refl _)
        exact ⟨T18, some (.int 0), _, _, _, X18, rfl, rfl, rfl, (fun h => by cases h), ⟨0, rfl, q18.trans hh16, Or.inr ⟨rfl, fun q => he (iff.mpr q)⟩⟩, fun fs hl => c19.trans (X18.ireturnOut hexec hret rfl (Or.inr (Or.inl rfl)) (hb hbytes d55) hl)⟩
    · have c13 : Steps p.tables e below (s₁.setTop (entryFrame m #[.ref x, .ref y] 3)) (T11.setTop (mkF m 55 #[.val (.ref x), .val (.ref y), .val (.ref y)] [.int 0])) := c12.trans (by
        refine XS.icmpYes X11.here hexec rfl (pc0 := 33) rfl (hb hbytes d33) rfl (ii_ne_t hcd) (by decide) rfl ?_
        refine iconstV X11.here hexec rfl 0 (hb hbytes d54) (by decide) ?_
        exact Steps.refl _)
      exact ⟨T11, some (.int 0), _, _, _, X11, rfl, rfl, rfl, (fun h => by cases h), ⟨0, rfl, hh11, Or.inr ⟨rfl, Cod.dif hx.2.2.2.2.1 hy.2.2.2.2.1 hcd⟩⟩, fun fs hl => c13.trans (X11.ireturnOut hexec hret rfl (Or.inr (Or.inl rfl)) (hb hbytes d55) hl)⟩
theorem pays {l : Launch} {R : Room} {p : Program} {e : Env} {below : List Frame} {s : State} {sargs : Array Value} {len W : Nat} (x t : Addr) (V : Cell) (cd : Int32) (n : Nat) (f : Nat → Int32) (y t' : Addr) (V' : Cell) (cd' : Int32) (k : Nat) (g : Nat → Int32) (z : Int32) (htab : tab.before sargs s = true) (hfr : 2 ≤ R.frames) (hlo : W + 28 ≤ R.locals) :
    Back l R p e below s sargs yN len W (fun A₁ a₁ => A₁.cells + 0 ≤ R.cells ∧ A₁.slots + 0 ≤ R.slots ∧ P x t V cd n f y t' V' cd' k g z a₁ A₁.U) (fun A₁ _ v₁ B₁ => Says01 (SameT n f k g) v₁ A₁.U B₁.U ∧ B₁.locs = A₁.locs ++ [] ∧ B₁.cells = A₁.cells + 0 ∧ B₁.slots = A₁.slots + 0) :=
  (law l x t V cd n f y t' V' cd' k g z).pays htab hfr (by omega)
end SEq
end StrChars
namespace StrChars.Road
open Jvm Sem ClassFile Op Lib Jvm.Stand Jvm.Free Jvm.Free.XT
open Jvm.Lib.Cold (StaticIs)
/-- the words of String.equals(Object) -/
abbrev wordsEq : List Jvm.Cond := [.code SEq.yN SEq.yB 3 (some .boolean), .initialized ST, .classLink ST 10 ST, .fieldLink ST 38 ST "COMPACT_STRINGS" "Z", .fieldLink ST 15 ST "coder" "B", .fieldLink ST 9 ST "value" "[B", .methodLink ST 541 LEq.yN, .static LEq.yN, .code LEq.yN LEq.yB 3 (some .boolean), .initialized "java/lang/StringLatin1"]
theorem tabEq_of {a : Array Value} {s : State} (h : ∀ w ∈ wordsEq, w.before a s = true) : SEq.tab.before a s = true := by
  have hl : LEq.tab.before a s = true := unparts (wk h (.code LEq.yN LEq.yB 3 (some .boolean))) (wks h (.initialized LEq.yN.cls :: LEq.site))
  have q := consq hl h
  exact unparts (wk q (.code SEq.yN SEq.yB 3 (some .boolean))) (wks q (.initialized SEq.yN.cls :: SEq.site))
theorem movedEq {Z s : State} {a0 args : Array Value} (hZ : Z.Warmed39 s.vm) (hw : ∀ d ∈ wordsEq, d.before a0 Z = true) : ∀ d ∈ wordsEq, d.before args s = true := fun d hd => by
  have t : ∀ d ∈ wordsEq, (d.onTables && d.keepsFace) = true := by decide +kernel
  exact RoadKit.mv hZ (hw d hd) (t d hd)
/-- the road's facts of a String, as the laws ask it -/
theorem txt_of {Z U : State} {a0 : Array Value} {kI : Nat} (wi : (Jvm.Cond.instantiable ST kI).before a0 Z = true) (al : Z.vm.Alike U.vm) {x t : Addr} {kb : ClassId} {cs : List Int32} {cd N2 : Int32} {vs : List Value} (E : RoadKit.Exa Z U.heap x ST) (V : RoadKit.Fld Z U.heap x ST "value" "[B" (.ref t)) (C : RoadKit.Fld Z U.heap x ST "coder" "B" (.int cd)) (K : RoadKit.Arv Z U.heap t kb .byte N2 vs (.int 0)) (hc : CodA cs cd N2 vs) (hb : ∀ c ∈ cs, ¬ c < 0 ∧ ¬ (65535 : Int32) < c) (l2 : cs.length ≤ 4000) :
    ∃ A, Txt x t A cd cs.length (fun j => cs.getD j 0) U := by
  obtain ⟨A, K1, K2, K3, K4, K5, K6⟩ := K
  have hcod := hc.cod (by omega) K3 K5
  obtain ⟨D, fV, fC, hB, F1, F2, g1, g2, -, -⟩ := strObj wi al E V C
  exact ⟨A, ⟨_, hB.2.2.1, D, hB.1, rfl, by cases q : D.vm <;> first | rfl | exact absurd q (hB.2.1.2 _)⟩, Has.of hB F1 g1, Has.of hB F2 g2, ⟨K1.1, State.isArrayOf_alike al K1.2.1, K1.2.2, by rcases hcod with ⟨-, q, -⟩ | ⟨-, q, -⟩ <;> omega⟩, hcod, fun j hj => by
    have e : cs.getD j 0 = cs[j] := by simp [List.getD_eq_getElem?_getD, hj]
    show ¬ cs.getD j 0 < 0 ∧ ¬ 65535 < cs.getD j 0
    rw [e]; exact hb _ (List.getElem_mem _)⟩
theorem same_list (cs ds : List Int32) : SameT cs.length (fun j => cs.getD j 0) ds.length (fun j => ds.getD j 0) ↔ cs = ds := by
  constructor
  · rintro ⟨e, q⟩
    refine List.ext_getElem e fun j h1 h2 => ?_
    have := q j h1
    simpa [List.getD_eq_getElem?_getD, h1, h2] using this
  · rintro rfl
    exact ⟨rfl, fun _ _ => rfl⟩
/-- **equals(Object) OF TWO SUCH STRINGS**: 1 just where the chars are the same -/
theorem eqW {p : Program} {l : Launch} {e : Env} {R : Room} {s : State} {args : Array Value} {below : List Frame} {len W : Nat} {Z : State} {a0 : Array Value} {h : Heap} (hZ : Z.Warmed39 s.vm) (hw : ∀ d ∈ wordsEq, d.before a0 Z = true) {kI : Nat} (wi : (Jvm.Cond.instantiable ST kI).before a0 Z = true)
    {x t : Addr} {kb : ClassId} {cs : List Int32} {cd N2 : Int32} {vs : List Value} (E : RoadKit.Exa Z h x ST) (V : RoadKit.Fld Z h x ST "value" "[B" (.ref t)) (C : RoadKit.Fld Z h x ST "coder" "B" (.int cd)) (K : RoadKit.Arv Z h t kb .byte N2 vs (.int 0)) (hc : CodA cs cd N2 vs) (hb : ∀ c ∈ cs, ¬ c < 0 ∧ ¬ (65535 : Int32) < c) (l2 : cs.length ≤ 4000)
    {y t' : Addr} {kb' : ClassId} {ds : List Int32} {cd' N2' : Int32} {vs' : List Value} (E' : RoadKit.Exa Z h y ST) (V' : RoadKit.Fld Z h y ST "value" "[B" (.ref t')) (C' : RoadKit.Fld Z h y ST "coder" "B" (.int cd')) (K' : RoadKit.Arv Z h t' kb' .byte N2' vs' (.int 0)) (hc' : CodA ds cd' N2' vs') (hb' : ∀ c ∈ ds, ¬ c < 0 ∧ ¬ (65535 : Int32) < c) (l2' : ds.length ≤ 4000)
    {z : Int32} (S : RoadKit.Sta Z h ST "COMPACT_STRINGS" "Z" (.int z)) (hz : ¬ z = 0) (hfr : 2 ≤ R.frames) (hlo : W + 28 ≤ R.locals) :
    Back l R p e below s args (⟨"java/lang/String", "equals", "(Ljava/lang/Object;)Z"⟩ : MethodName) len W (fun P a => a = #[.ref x, .ref y] ∧ P.U.heap = h ∧ P.cells + 0 ≤ R.cells ∧ P.slots + 0 ≤ R.slots)
      (fun P _ v B => ∃ L, (((v = some (.int 1) ∧ cs = ds) ∨ (v = some (.int 0) ∧ ¬ cs = ds)) ∧ L = [] ∧ B.U.heap = h) ∧ B.locs = P.locs ++ L ∧ B.cells = P.cells + 0 ∧ B.slots = P.slots + 0) := by
  intro m meth c P g ig mk a X hg hsize hdg hW hn hp'
  obtain ⟨rfl, rfl, r1, r2⟩ := hp'
  have al : Z.vm.Alike P.U.vm := hZ.alike.trans X.warmed.alike
  obtain ⟨A, hx⟩ := txt_of wi al E V C K hc hb l2
  obtain ⟨A', hy⟩ := txt_of wi al E' V' C' K' hc' hb' l2'
  obtain ⟨v, B, X', ⟨⟨w, hv, hh, hq⟩, hl, hk, hs⟩, st⟩ := SEq.pays x t A cd cs.length (fun j => cs.getD j 0) y t' A' cd' ds.length (fun j => ds.getD j 0) z (tabEq_of (movedEq hZ hw)) hfr hlo m meth c P g ig mk _ X hg hsize hdg hW hn ⟨r1, r2, rfl, hx, hy, sta_is al S, hz⟩
  refine ⟨v, B, X', ⟨[], ⟨?_, rfl, hh⟩, hl, hk, hs⟩, st⟩
  rcases hq with ⟨rfl, q⟩ | ⟨rfl, q⟩
  · exact Or.inl ⟨hv, (same_list cs ds).mp q⟩
  · exact Or.inr ⟨hv, fun e => q ((same_list cs ds).mpr e)⟩
end StrChars.Road
end Jvm.Pilot.@@N@@
namespace Jvm.Pilot.@@N@@
open Jvm Jvm.ClassFile Sem Op Lib Jvm.Free Jvm.Stand Jvm.LawKit Jvm.RoadKit Bundle Jvm.Pilot.@@N@@.Jvm.D
def Av (Z : State) (h : Heap) (a : Addr) (ty : FieldType) (n : Int32) (vs : List Value) (d : Value) : Prop := ∃ k, Arv Z h a k ty n vs d
theorem Av.lt {Z : State} {h : Heap} {a : Addr} {ty : FieldType} {n : Int32} {vs : List Value} {d : Value} (F : Av Z h a ty n vs d) : a < h.size := by obtain ⟨k, F⟩ := F; exact F.lt
theorem Av.ext {Z : State} {h h' : Heap} {a : Addr} {ty : FieldType} {n : Int32} {vs : List Value} {d : Value} (F : Av Z h a ty n vs d) (E : Ext h h') : Av Z h' a ty n vs d := by obtain ⟨k, F⟩ := F; exact ⟨k, F.ext E⟩
theorem Av.other {Z : State} {h h' : Heap} {a b : Addr} {ty : FieldType} {n : Int32} {vs : List Value} {d : Value} {sl : Nat} {v : Value} (F : Av Z h b ty n vs d) (W : Wr h h' a sl v) (q : b ≠ a) : Av Z h' b ty n vs d := by obtain ⟨k, F⟩ := F; exact ⟨k, F.other W q⟩
def Al (Z : State) (h : Heap) (a : Addr) (ty : FieldType) (n : Int32) : Prop := ∃ c : Cell, Arr Z h a c ty ∧ c.slots.size = n.toNatClampNeg ∧ ¬ n < 0
theorem Al.lt {Z : State} {h : Heap} {a : Addr} {ty : FieldType} {n : Int32} (F : Al Z h a ty n) : a < h.size := by obtain ⟨c, A, -⟩ := F; exact A.lt
theorem Al.ext {Z : State} {h h' : Heap} {a : Addr} {ty : FieldType} {n : Int32} (F : Al Z h a ty n) (E : Ext h h') : Al Z h' a ty n := by obtain ⟨c, A, r⟩ := F; exact ⟨c, A.ext E, r⟩
theorem Al.other {Z : State} {h h' : Heap} {a b : Addr} {ty : FieldType} {n : Int32} {sl : Nat} {v : Value} (F : Al Z h b ty n) (W : Wr h h' a sl v) (q : b ≠ a) : Al Z h' b ty n := by obtain ⟨c, A, r⟩ := F; exact ⟨c, A.other W q, r⟩
theorem Al.same {Z : State} {h h' : Heap} {a : Addr} {ty : FieldType} {n : Int32} {sl : Nat} {v : Value} (F : Al Z h a ty n) (W : Wr h h' a sl v) : Al Z h' a ty n := by obtain ⟨c, A, r⟩ := F; exact ⟨_, A.same W, by rw [sz_set]; exact r.1, r.2⟩
theorem Al.keep {Z : State} {h h' : Heap} {a : Addr} {ty : FieldType} {n : Int32} {ws : List Addr} (F : Al Z h a ty n) (K : Keep h h' ws) (q : a ∉ ws) : Al Z h' a ty n := by obtain ⟨c, A, r⟩ := F; exact ⟨c, ⟨K.2.1 a c A.1 q, A.2⟩, r⟩
theorem Av.al {Z : State} {h : Heap} {a : Addr} {ty : FieldType} {n : Int32} {vs : List Value} {d : Value} (F : Av Z h a ty n vs d) : Al Z h a ty n := by obtain ⟨k, c, A, -, r1, r2, -⟩ := F; exact ⟨c, A, r1, r2⟩
theorem Av.keep {Z : State} {h h' : Heap} {a : Addr} {ty : FieldType} {n : Int32} {vs : List Value} {d : Value} {ws : List Addr} (F : Av Z h a ty n vs d) (K : Keep h h' ws) (q : a ∉ ws) : Av Z h' a ty n vs d := by obtain ⟨k, F⟩ := F; exact ⟨k, F.keep K q⟩
abbrev MN1 : MethodName := ⟨"com/example/iskati/iskati/entity/EntityFieldNamedPinLaw", "baseOf", "(I)[C"⟩
abbrev MN2 : MethodName := ⟨"java/lang/String", "<init>", "([C)V"⟩
abbrev MN8 : MethodName := ⟨"com/example/iskati/iskati/entity/EntityFieldNamedPinLaw", "expected", "(Ljava/lang/String;)Lcom/example/iskati/iskati/entity/EntityField;"⟩
abbrev MN9 : MethodName := ⟨"java/lang/String", "equals", "(Ljava/lang/Object;)Z"⟩
abbrev MN11 : MethodName := ⟨"com/example/iskati/iskati/entity/EntityField", "named", "(Ljava/lang/String;)Lcom/example/iskati/iskati/entity/EntityField;"⟩
abbrev MN12 : MethodName := ⟨"com/example/iskati/iskati/entity/EntityField", "values", "()[Lcom/example/iskati/iskati/entity/EntityField;"⟩
abbrev MN13 : MethodName := ⟨"com/example/iskati/iskati/entity/EntityFieldNamedPinLaw", "longOf", "(IC)[C"⟩
abbrev MN14 : MethodName := ⟨"java/lang/String", "valueOf", "(C)Ljava/lang/String;"⟩
abbrev MN15 : MethodName := ⟨"java/lang/StringLatin1", "canEncode", "(C)Z"⟩
abbrev MN16 : MethodName := ⟨"java/lang/StringLatin1", "toBytes", "(C)[B"⟩
abbrev MN17 : MethodName := ⟨"java/lang/String", "<init>", "([BB)V"⟩
abbrev MN18 : MethodName := ⟨"com/example/iskati/iskati/entity/EntityFieldNamedPinLaw", "shortOf", "(I)[C"⟩
theorem own_nat (n k : Nat) : (n &&& 2 ^ k = 0) ↔ (n / 2 ^ k) % 2 = 0 := by
  constructor
  · intro h
    have : (n &&& 2 ^ k).testBit k = false := by rw [h]; simp
    rw [Nat.testBit_and, Nat.testBit_two_pow_self, Bool.and_true, Nat.testBit_eq_decide_div_mod_eq] at this
    have := of_decide_eq_false this
    omega
  · intro h
    apply Nat.eq_of_testBit_eq
    intro i
    rw [Nat.testBit_and, Nat.zero_testBit, Nat.testBit_two_pow]
    by_cases e : k = i
    · subst e
      rw [Nat.testBit_eq_decide_div_mod_eq]
      simp [h]
    · simp [e]
theorem own_pow32 (x : Int32) (m : Int32) (k : Nat) (hm : m.toBitVec.toNat = 2 ^ k) : (x &&& m = 0) ↔ (x.toBitVec.toNat / 2 ^ k) % 2 = 0 := by
  have e1 : (x &&& m).toBitVec.toNat = x.toBitVec.toNat &&& 2 ^ k := by
    show (x.toBitVec &&& m.toBitVec).toNat = _
    rw [BitVec.toNat_and, hm]
  have e2 : (x &&& m = 0) ↔ (x &&& m).toBitVec.toNat = 0 := by
    rw [← Int32.toBitVec_inj, ← BitVec.toNat_inj]; rfl
  rw [e2, e1, own_nat]
theorem own_tn32 (x : Int32) : (x.toBitVec.toNat : Int) = x.toInt % 4294967296 := by
  have h := BitVec.toInt_eq_toNat_bmod x.toBitVec
  show (x.toBitVec.toNat : Int) = x.toBitVec.toInt % 4294967296
  have h2 := x.toBitVec.isLt
  have h3 := bm32 (x.toBitVec.toNat : Int)
  rw [h]
  omega
theorem own_dist (a b c : Int32) : ((a ^^^ b) &&& c) = ((a &&& c) ^^^ (b &&& c)) := by
  apply Int32.toBitVec_inj.mp
  show (a.toBitVec ^^^ b.toBitVec) &&& c.toBitVec = (a.toBitVec &&& c.toBitVec) ^^^ (b.toBitVec &&& c.toBitVec)
  apply BitVec.eq_of_getLsbD_eq
  intro i hi
  simp only [BitVec.getLsbD_and, BitVec.getLsbD_xor]
  cases a.toBitVec.getLsbD i <;> cases b.toBitVec.getLsbD i <;> cases c.toBitVec.getLsbD i <;> rfl
theorem own_disto (a b c : Int32) : ((a ||| b) &&& c) = ((a &&& c) ||| (b &&& c)) := by
  apply Int32.toBitVec_inj.mp
  show (a.toBitVec ||| b.toBitVec) &&& c.toBitVec = (a.toBitVec &&& c.toBitVec) ||| (b.toBitVec &&& c.toBitVec)
  apply BitVec.eq_of_getLsbD_eq
  intro i hi
  simp only [BitVec.getLsbD_and, BitVec.getLsbD_or]
  cases a.toBitVec.getLsbD i <;> cases b.toBitVec.getLsbD i <;> cases c.toBitVec.getLsbD i <;> rfl
theorem own_pick {v : Option Value} {c : Prop} [Decidable c] (h : (v = some (.int 1) ∧ c) ∨ (v = some (.int 0) ∧ ¬ c)) : v = some (.int (if c then (1 : Int32) else (0 : Int32))) := by
  rcases h with ⟨rfl, q⟩ | ⟨rfl, q⟩
  · rw [if_pos q]
  · rw [if_neg q]
def own_vs (cs : List Int32) : List Value := cs.map fun c => Value.int (StrChars.lo8 c)
def own_cv (cs : List Int32) : List Value := cs.map Value.int
theorem own_cvset (cs : List Int32) (i : Nat) (c : Int32) : (own_cv cs).set i (.int c) = own_cv (cs.set i c) := by unfold own_cv; rw [List.map_set]
theorem own_cvlen (cs : List Int32) : (own_cv cs).length = cs.length := by unfold own_cv; rw [List.length_map]
theorem own_i2c {c : Int32} (h : ¬ c < 0 ∧ ¬ (255 : Int32) < c) : c.toUInt32.toUInt16.toUInt32.toInt32 = c := by
  have e := c_mask c 255 8 (by decide) (by decide)
  have q : c &&& 255 = c := by
    rw [Int32.lt_iff_toInt_lt, Int32.lt_iff_toInt_lt] at h
    simp only [Int32.reduceToInt] at h
    rw [← Int32.toInt_inj, e]
    omega
  have f := i2c_mask c
  rw [q] at f
  exact f
theorem own_narc {c : Int32} (h : ¬ c < 0 ∧ ¬ (255 : Int32) < c) : nar .char c = c := own_i2c h
theorem own_narb (c : Int32) : nar .byte (c.toInt8.toInt32) = c.toInt8.toInt32 := by
  show (c.toInt8.toInt32).toInt8.toInt32 = c.toInt8.toInt32
  rw [Int8.toInt8_toInt32]
theorem own_cod {cs : List Int32} {n : Int32} (hn : n = Int32.ofNat cs.length) (hr : ∀ c ∈ cs, ¬ c < 0 ∧ ¬ (255 : Int32) < c) : StrChars.Road.CodA cs 0 n (own_vs cs) := Or.inl ⟨rfl, hn, rfl, fun c hc => (hr c hc).2⟩
theorem own_wid {cs : List Int32} (hr : ∀ c ∈ cs, ¬ c < 0 ∧ ¬ (255 : Int32) < c) : ∀ c ∈ cs, ¬ c < 0 ∧ ¬ (65535 : Int32) < c := by
  intro c hc
  have q := hr c hc
  rw [Int32.lt_iff_toInt_lt, Int32.lt_iff_toInt_lt] at q ⊢
  simp only [Int32.reduceToInt] at q ⊢
  omega
theorem own_mask8 (x : Int32) : ¬ (x &&& (255 : Int32)) < 0 ∧ ¬ (255 : Int32) < (x &&& (255 : Int32)) := by
  have e := c_mask x 255 8 (by decide) (by decide)
  rw [Int32.lt_iff_toInt_lt, Int32.lt_iff_toInt_lt]
  simp only [Int32.reduceToInt]
  omega
theorem own_EW {Z : State} {a0 : Array Value} (hw : ∀ d ∈ tables_1, d.before a0 Z = true) : EW Z a0 consts_1 := (EW.cons (hw _ (List.mem_of_getElem? (i := 97) rfl)) (by decide) (EW.cons (hw _ (List.mem_of_getElem? (i := 37) rfl)) (by decide) (EW.cons (hw _ (List.mem_of_getElem? (i := 80) rfl)) (by decide) (EW.cons (hw _ (List.mem_of_getElem? (i := 81) rfl)) (by decide) (EW.cons (hw _ (List.mem_of_getElem? (i := 82) rfl)) (by decide) EW.nil)))))
theorem own_safeAv {Z : State} {EL : List (String × Nat)} {vm : Vm} {h : Heap} {x : Addr} {ty : FieldType} {n : Int32} {vs : List Value} {d : Value} (hal : Z.vm.Alike vm) (A : Av Z h x ty n vs d) (ht : ty ≠ .byte) : Safe Z EL vm h x := by
  obtain ⟨k, c, q, -⟩ := A
  exact Safe.arr hal q ht
theorem own_safeAl {Z : State} {EL : List (String × Nat)} {vm : Vm} {h : Heap} {x : Addr} {ty : FieldType} {n : Int32} (hal : Z.vm.Alike vm) (A : Al Z h x ty n) (ht : ty ≠ .byte) : Safe Z EL vm h x := by
  obtain ⟨c, q, -⟩ := A
  exact Safe.arr hal q ht
theorem own_safeNull {Z : State} {EL : List (String × Nat)} {vm : Vm} {h : Heap} {x : Addr} (hal : Z.vm.Alike vm) (E : Exa Z h x "java/lang/String") (F0 : Fld Z h x "java/lang/String" "value" "[B" .null) : Safe Z EL vm h x := fun B => by
  obtain ⟨cell, k, e1, e2, e3, -, -⟩ := E
  obtain ⟨p, -, u, a, -, q, -, F, rfl | rfl⟩ := B
  · obtain ⟨cS, ⟨⟨s1, s2, s3, ⟨cv, kv, iv, s4, s4'⟩, -, s6, -, s8, -⟩, -⟩, -⟩ := F
    obtain ⟨kv', z4⟩ := ff_back (U := Wst Z vm h) hal s4
    obtain ⟨cell', c1, k1, i1, f1, g1, g2, g3, g4, g5, g6, g7⟩ := F0
    cases (show h[q.sa]? = some q.sC from s1).symm.trans g1
    have e4 := z4.symm.trans g2
    simp only [Option.some.injEq, Prod.mk.injEq] at e4
    rw [← e4.2.2.2, s8] at g7
    cases g7
  · cases (show h[q.sd]? = some q.SA from F.hd).symm.trans e1
    obtain ⟨cS, -, -, f, -⟩ := F
    have f : vm.findClass "[B" = some q.SA.cls := f
    rw [hal.findClass] at f
    obtain ⟨k1, q1, q2⟩ := Vm.findClass_spec f
    obtain ⟨k2, q3, q4⟩ := Vm.findClass_spec e2
    cases q1.symm.trans q3
    exact absurd (q2.symm.trans q4) (by decide)
def own_L1 : List Int32 := [110, 97, 109, 101, 115]
theorem own_Lr1 : ∀ c ∈ own_L1, ¬ c < 0 ∧ ¬ (255 : Int32) < c := by unfold own_L1; decide
def own_L2 : List Int32 := [97, 116, 116, 114, 105, 98, 117, 116, 101, 115]
theorem own_Lr2 : ∀ c ∈ own_L2, ¬ c < 0 ∧ ¬ (255 : Int32) < c := by unfold own_L2; decide
def own_L3 : List Int32 := [116, 121, 112, 101, 115]
theorem own_Lr3 : ∀ c ∈ own_L3, ¬ c < 0 ∧ ¬ (255 : Int32) < c := by unfold own_L3; decide
def own_L4 : List Int32 := [108, 105, 110, 107, 115]
theorem own_Lr4 : ∀ c ∈ own_L4, ¬ c < 0 ∧ ¬ (255 : Int32) < c := by unfold own_L4; decide
def own_base (k : Int32) : List Int32 := if k = 0 then [110, 97, 109, 101, 115] else if k = 1 then [97, 116, 116, 114, 105, 98, 117, 116, 101, 115] else if k = 2 then [116, 121, 112, 101, 115] else [108, 105, 110, 107, 115]
def own_short (k : Int32) : List Int32 := if k = 0 then [110, 97, 109, 101] else if k = 1 then [97, 116, 116, 114, 105, 98, 117, 116, 101] else if k = 2 then [116, 121, 112, 101] else [108, 105, 110, 107]
def own_long (k c : Int32) : List Int32 := if k = 0 then [110, 97, 109, 101, 115, c] else if k = 1 then [97, 116, 116, 114, 105, 98, 117, 116, 101, 115, c] else if k = 2 then [116, 121, 112, 101, 115, c] else [108, 105, 110, 107, 115, c]
def own_pk (cs : List Int32) (a b c d : Addr) : Value := if cs = own_L1 then .ref a else if cs = own_L2 then .ref b else if cs = own_L3 then .ref c else if cs = own_L4 then .ref d else .null
theorem own_pkr (cs : List Int32) (a b c d : Addr) : (own_pk cs a b c d).isRef = true := by
  unfold own_pk
  split
  · rfl
  · split
    · rfl
    · split
      · rfl
      · split <;> rfl
theorem own_baser (k : Int32) : ∀ c ∈ own_base k, ¬ c < 0 ∧ ¬ (255 : Int32) < c := by
  unfold own_base
  split
  · decide
  · split
    · decide
    · split <;> decide
theorem own_base0 (k : Int32) : 0 < (own_base k).length ∧ (own_base k).length ≤ 10 ∧ ((own_base k).length = 5 ∨ (own_base k).length = 10) := by
  unfold own_base
  split
  · decide
  · split
    · decide
    · split <;> decide
theorem own_shortr (k : Int32) : ∀ c ∈ own_short k, ¬ c < 0 ∧ ¬ (255 : Int32) < c := by
  unfold own_short
  split
  · decide
  · split
    · decide
    · split <;> decide
theorem own_short0 (k : Int32) : 0 < (own_short k).length ∧ (own_short k).length ≤ 9 := by
  unfold own_short
  split
  · decide
  · split
    · decide
    · split <;> decide
theorem own_snoc {L : List Int32} {c : Int32} (h : ∀ c ∈ L, ¬ c < 0 ∧ ¬ (255 : Int32) < c) (hc : ¬ c < 0 ∧ ¬ (255 : Int32) < c) : ∀ d ∈ L ++ [c], ¬ d < 0 ∧ ¬ (255 : Int32) < d := by
  intro d hd
  rcases List.mem_append.mp hd with q | q
  · exact h d q
  · rw [List.mem_singleton] at q; rw [q]; exact hc
theorem own_longe (k c : Int32) : own_long k c = own_base k ++ [c] := by
  unfold own_long own_base
  split
  · rfl
  · split
    · rfl
    · split <;> rfl
theorem own_longr (k : Int32) {c : Int32} (hc : ¬ c < 0 ∧ ¬ (255 : Int32) < c) : ∀ d ∈ own_long k c, ¬ d < 0 ∧ ¬ (255 : Int32) < d := by rw [own_longe]; exact own_snoc (own_baser k) hc
theorem own_long0 (k c : Int32) : 0 < (own_long k c).length ∧ (own_long k c).length ≤ 11 := by
  rw [own_longe, List.length_append]
  have := own_base0 k
  simp only [List.length_singleton]
  omega
theorem own_setr {L : List Int32} {c : Int32} (i : Nat) (h : ∀ c ∈ L, ¬ c < 0 ∧ ¬ (255 : Int32) < c) (hc : ¬ c < 0 ∧ ¬ (255 : Int32) < c) : ∀ d ∈ L.set i c, ¬ d < 0 ∧ ¬ (255 : Int32) < d := by
  intro d hd
  rcases List.mem_or_eq_of_mem_set hd with q | q
  · exact h d q
  · rw [q]; exact hc
theorem own_k5 (k : Int32) : (Int32.ofNat (own_base k).length = 5 ∧ (own_base k).length = 5) ∨ (Int32.ofNat (own_base k).length = 10 ∧ (own_base k).length = 10) := by
  rcases (own_base0 k).2.2 with q | q
  · left; rw [q]; exact ⟨rfl, rfl⟩
  · right; rw [q]; exact ⟨rfl, rfl⟩
theorem own_nzb (k : Int32) : ¬ Int32.ofNat (own_base k).length = 0 := by
  rcases own_k5 k with q | q <;> rw [q.1] <;> decide
theorem own_idx (p k : Int32) : ¬ ((p &&& (2147483647 : Int32)) % Int32.ofNat (own_base k).length) < 0 ∧ ((p &&& (2147483647 : Int32)) % Int32.ofNat (own_base k).length) < Int32.ofNat (own_base k).length ∧ ((p &&& (2147483647 : Int32)) % Int32.ofNat (own_base k).length).toNatClampNeg < (own_base k).length := by
  have e := c_mask p 2147483647 31 (by decide) (by decide)
  rw [Int32.lt_iff_toInt_lt, Int32.lt_iff_toInt_lt]
  rcases own_k5 k with ⟨q, q'⟩ | ⟨q, q'⟩ <;> rw [q, q']
  · have m : ((p &&& (2147483647 : Int32)) % 5).toInt = (p &&& (2147483647 : Int32)).toInt.tmod 5 := by rw [Int32.toInt_mod]; rfl
    have n : ((p &&& (2147483647 : Int32)) % 5).toNatClampNeg = ((p &&& (2147483647 : Int32)) % 5).toInt.toNat := rfl
    rw [Int.tmod_eq_emod_of_nonneg (by omega)] at m
    simp only [Int32.reduceToInt]
    omega
  · have m : ((p &&& (2147483647 : Int32)) % 10).toInt = (p &&& (2147483647 : Int32)).toInt.tmod 10 := by rw [Int32.toInt_mod]; rfl
    have n : ((p &&& (2147483647 : Int32)) % 10).toNatClampNeg = ((p &&& (2147483647 : Int32)) % 10).toInt.toNat := rfl
    rw [Int.tmod_eq_emod_of_nonneg (by omega)] at m
    simp only [Int32.reduceToInt]
    omega
theorem own_nz {args : Array Value} {s : State} {t : Term} {x : Int32} (h : (Jvm.Cond.not (Jvm.Cond.eq t (.int 0))).value args s none s [] = some true) (e : t.eval args s none [] s = some (.int x)) : ¬ (x = (0 : Int32)) := by
  have q := not_v h
  simpa [Jvm.Cond.value, e, Term.eval] using q
theorem own_eqv {args : Array Value} {s : State} {t : Term} {k : Int32} (h : (Jvm.Cond.eq t (.int k)).value args s none s [] = some true) : t.eval args s none [] s = some (.int k) := by
  cases ht : t.eval args s none [] s with
  | none => simp [Jvm.Cond.value, ht] at h
  | some v => cases v <;> simp [Jvm.Cond.value, ht, Term.eval] at h ⊢; exact h
theorem own_elt {args : Array Value} {s : State} {t : Term} {a : Addr} {cl : Cell} {ty : FieldType} (et : t.eval args s none [] s = some (.ref a)) (A : Arr s s.heap a cl ty) {i : Int32} (hi : ¬ i < 0) : (Term.elem t (.int i)).eval args s none [] s = cl.slots[i.toNatClampNeg]? := by
  have hat : s.arrayAt? a = some cl := Jvm.Free.IntBox.arrayAt_of A.1 A.2.1 A.2.2
  simp [Term.eval, et, hi, hat]
theorem own_eqr {args : Array Value} {s : State} {t u : Term} {a : Addr} (h : (Jvm.Cond.eq t u).value args s none s [] = some true) (eu : u.eval args s none [] s = some (.ref a)) : t.eval args s none [] s = some (.ref a) := by
  cases ht : t.eval args s none [] s with
  | none => simp [Jvm.Cond.value, ht] at h
  | some v => cases v <;> simp [Jvm.Cond.value, ht, eu] at h ⊢; exact h
theorem own_lenA {args : Array Value} {s : State} {t : Term} {a : Addr} {cl : Cell} {ty : FieldType} {k : Int32} (h : (Jvm.Cond.eq (.length t) (.int k)).value args s none s [] = some true) (et : t.eval args s none [] s = some (.ref a)) (A : Arr s s.heap a cl ty) : cl.slots.size < 2 ^ 31 ∧ cl.slots.size.toInt32 = k := Jvm.Free.IntBox.length_fwd (Cond.before_iff.mpr h) et A.1 A.2.1 A.2.2
theorem d1_0 : decode method_4_code 0 = .ok (.iload_n 0, 1) := by decide +kernel
theorem d1_1 : decode method_4_code 1 = .ok (.ifCond .ne 32, 3) := by decide +kernel
theorem d1_4 : decode method_4_code 4 = .ok (.iconst 5, 1) := by decide +kernel
theorem d1_5 : decode method_4_code 5 = .ok (.newarray .char, 2) := by decide +kernel
theorem d1_7 : decode method_4_code 7 = .ok (.dup, 1) := by decide +kernel
theorem d1_8 : decode method_4_code 8 = .ok (.iconst 0, 1) := by decide +kernel
theorem d1_9 : decode method_4_code 9 = .ok (.bipush 110, 2) := by decide +kernel
theorem d1_11 : decode method_4_code 11 = .ok (.castore, 1) := by decide +kernel
theorem d1_12 : decode method_4_code 12 = .ok (.dup, 1) := by decide +kernel
theorem d1_13 : decode method_4_code 13 = .ok (.iconst 1, 1) := by decide +kernel
theorem d1_14 : decode method_4_code 14 = .ok (.bipush 97, 2) := by decide +kernel
theorem d1_16 : decode method_4_code 16 = .ok (.castore, 1) := by decide +kernel
theorem d1_17 : decode method_4_code 17 = .ok (.dup, 1) := by decide +kernel
theorem d1_18 : decode method_4_code 18 = .ok (.iconst 2, 1) := by decide +kernel
theorem d1_19 : decode method_4_code 19 = .ok (.bipush 109, 2) := by decide +kernel
theorem d1_21 : decode method_4_code 21 = .ok (.castore, 1) := by decide +kernel
theorem d1_22 : decode method_4_code 22 = .ok (.dup, 1) := by decide +kernel
theorem d1_23 : decode method_4_code 23 = .ok (.iconst 3, 1) := by decide +kernel
theorem d1_24 : decode method_4_code 24 = .ok (.bipush 101, 2) := by decide +kernel
theorem d1_26 : decode method_4_code 26 = .ok (.castore, 1) := by decide +kernel
theorem d1_27 : decode method_4_code 27 = .ok (.dup, 1) := by decide +kernel
theorem d1_28 : decode method_4_code 28 = .ok (.iconst 4, 1) := by decide +kernel
theorem d1_29 : decode method_4_code 29 = .ok (.bipush 115, 2) := by decide +kernel
theorem d1_31 : decode method_4_code 31 = .ok (.castore, 1) := by decide +kernel
theorem d1_32 : decode method_4_code 32 = .ok (.areturn, 1) := by decide +kernel
theorem d1_33 : decode method_4_code 33 = .ok (.iload_n 0, 1) := by decide +kernel
theorem d1_34 : decode method_4_code 34 = .ok (.iconst 1, 1) := by decide +kernel
theorem d1_35 : decode method_4_code 35 = .ok (.if_icmp .ne 62, 3) := by decide +kernel
theorem d1_38 : decode method_4_code 38 = .ok (.bipush 10, 2) := by decide +kernel
theorem d1_40 : decode method_4_code 40 = .ok (.newarray .char, 2) := by decide +kernel
theorem d1_42 : decode method_4_code 42 = .ok (.dup, 1) := by decide +kernel
theorem d1_43 : decode method_4_code 43 = .ok (.iconst 0, 1) := by decide +kernel
theorem d1_44 : decode method_4_code 44 = .ok (.bipush 97, 2) := by decide +kernel
theorem d1_46 : decode method_4_code 46 = .ok (.castore, 1) := by decide +kernel
theorem d1_47 : decode method_4_code 47 = .ok (.dup, 1) := by decide +kernel
theorem d1_48 : decode method_4_code 48 = .ok (.iconst 1, 1) := by decide +kernel
theorem d1_49 : decode method_4_code 49 = .ok (.bipush 116, 2) := by decide +kernel
theorem d1_51 : decode method_4_code 51 = .ok (.castore, 1) := by decide +kernel
theorem d1_52 : decode method_4_code 52 = .ok (.dup, 1) := by decide +kernel
theorem d1_53 : decode method_4_code 53 = .ok (.iconst 2, 1) := by decide +kernel
theorem d1_54 : decode method_4_code 54 = .ok (.bipush 116, 2) := by decide +kernel
theorem d1_56 : decode method_4_code 56 = .ok (.castore, 1) := by decide +kernel
theorem d1_57 : decode method_4_code 57 = .ok (.dup, 1) := by decide +kernel
theorem d1_58 : decode method_4_code 58 = .ok (.iconst 3, 1) := by decide +kernel
theorem d1_59 : decode method_4_code 59 = .ok (.bipush 114, 2) := by decide +kernel
theorem d1_61 : decode method_4_code 61 = .ok (.castore, 1) := by decide +kernel
theorem d1_62 : decode method_4_code 62 = .ok (.dup, 1) := by decide +kernel
theorem d1_63 : decode method_4_code 63 = .ok (.iconst 4, 1) := by decide +kernel
theorem d1_64 : decode method_4_code 64 = .ok (.bipush 105, 2) := by decide +kernel
theorem d1_66 : decode method_4_code 66 = .ok (.castore, 1) := by decide +kernel
theorem d1_67 : decode method_4_code 67 = .ok (.dup, 1) := by decide +kernel
theorem d1_68 : decode method_4_code 68 = .ok (.iconst 5, 1) := by decide +kernel
theorem d1_69 : decode method_4_code 69 = .ok (.bipush 98, 2) := by decide +kernel
theorem d1_71 : decode method_4_code 71 = .ok (.castore, 1) := by decide +kernel
theorem d1_72 : decode method_4_code 72 = .ok (.dup, 1) := by decide +kernel
theorem d1_73 : decode method_4_code 73 = .ok (.bipush 6, 2) := by decide +kernel
theorem d1_75 : decode method_4_code 75 = .ok (.bipush 117, 2) := by decide +kernel
theorem d1_77 : decode method_4_code 77 = .ok (.castore, 1) := by decide +kernel
theorem d1_78 : decode method_4_code 78 = .ok (.dup, 1) := by decide +kernel
theorem d1_79 : decode method_4_code 79 = .ok (.bipush 7, 2) := by decide +kernel
theorem d1_81 : decode method_4_code 81 = .ok (.bipush 116, 2) := by decide +kernel
theorem d1_83 : decode method_4_code 83 = .ok (.castore, 1) := by decide +kernel
theorem d1_84 : decode method_4_code 84 = .ok (.dup, 1) := by decide +kernel
theorem d1_85 : decode method_4_code 85 = .ok (.bipush 8, 2) := by decide +kernel
theorem d1_87 : decode method_4_code 87 = .ok (.bipush 101, 2) := by decide +kernel
theorem d1_89 : decode method_4_code 89 = .ok (.castore, 1) := by decide +kernel
theorem d1_90 : decode method_4_code 90 = .ok (.dup, 1) := by decide +kernel
theorem d1_91 : decode method_4_code 91 = .ok (.bipush 9, 2) := by decide +kernel
theorem d1_93 : decode method_4_code 93 = .ok (.bipush 115, 2) := by decide +kernel
theorem d1_95 : decode method_4_code 95 = .ok (.castore, 1) := by decide +kernel
theorem d1_96 : decode method_4_code 96 = .ok (.areturn, 1) := by decide +kernel
theorem d1_97 : decode method_4_code 97 = .ok (.iload_n 0, 1) := by decide +kernel
theorem d1_98 : decode method_4_code 98 = .ok (.iconst 2, 1) := by decide +kernel
theorem d1_99 : decode method_4_code 99 = .ok (.if_icmp .ne 32, 3) := by decide +kernel
theorem d1_102 : decode method_4_code 102 = .ok (.iconst 5, 1) := by decide +kernel
theorem d1_103 : decode method_4_code 103 = .ok (.newarray .char, 2) := by decide +kernel
theorem d1_105 : decode method_4_code 105 = .ok (.dup, 1) := by decide +kernel
theorem d1_106 : decode method_4_code 106 = .ok (.iconst 0, 1) := by decide +kernel
theorem d1_107 : decode method_4_code 107 = .ok (.bipush 116, 2) := by decide +kernel
theorem d1_109 : decode method_4_code 109 = .ok (.castore, 1) := by decide +kernel
theorem d1_110 : decode method_4_code 110 = .ok (.dup, 1) := by decide +kernel
theorem d1_111 : decode method_4_code 111 = .ok (.iconst 1, 1) := by decide +kernel
theorem d1_112 : decode method_4_code 112 = .ok (.bipush 121, 2) := by decide +kernel
theorem d1_114 : decode method_4_code 114 = .ok (.castore, 1) := by decide +kernel
theorem d1_115 : decode method_4_code 115 = .ok (.dup, 1) := by decide +kernel
theorem d1_116 : decode method_4_code 116 = .ok (.iconst 2, 1) := by decide +kernel
theorem d1_117 : decode method_4_code 117 = .ok (.bipush 112, 2) := by decide +kernel
theorem d1_119 : decode method_4_code 119 = .ok (.castore, 1) := by decide +kernel
theorem d1_120 : decode method_4_code 120 = .ok (.dup, 1) := by decide +kernel
theorem d1_121 : decode method_4_code 121 = .ok (.iconst 3, 1) := by decide +kernel
theorem d1_122 : decode method_4_code 122 = .ok (.bipush 101, 2) := by decide +kernel
theorem d1_124 : decode method_4_code 124 = .ok (.castore, 1) := by decide +kernel
theorem d1_125 : decode method_4_code 125 = .ok (.dup, 1) := by decide +kernel
theorem d1_126 : decode method_4_code 126 = .ok (.iconst 4, 1) := by decide +kernel
theorem d1_127 : decode method_4_code 127 = .ok (.bipush 115, 2) := by decide +kernel
theorem d1_129 : decode method_4_code 129 = .ok (.castore, 1) := by decide +kernel
theorem d1_130 : decode method_4_code 130 = .ok (.areturn, 1) := by decide +kernel
theorem d1_131 : decode method_4_code 131 = .ok (.iconst 5, 1) := by decide +kernel
theorem d1_132 : decode method_4_code 132 = .ok (.newarray .char, 2) := by decide +kernel
theorem d1_134 : decode method_4_code 134 = .ok (.dup, 1) := by decide +kernel
theorem d1_135 : decode method_4_code 135 = .ok (.iconst 0, 1) := by decide +kernel
theorem d1_136 : decode method_4_code 136 = .ok (.bipush 108, 2) := by decide +kernel
theorem d1_138 : decode method_4_code 138 = .ok (.castore, 1) := by decide +kernel
theorem d1_139 : decode method_4_code 139 = .ok (.dup, 1) := by decide +kernel
theorem d1_140 : decode method_4_code 140 = .ok (.iconst 1, 1) := by decide +kernel
theorem d1_141 : decode method_4_code 141 = .ok (.bipush 105, 2) := by decide +kernel
theorem d1_143 : decode method_4_code 143 = .ok (.castore, 1) := by decide +kernel
theorem d1_144 : decode method_4_code 144 = .ok (.dup, 1) := by decide +kernel
theorem d1_145 : decode method_4_code 145 = .ok (.iconst 2, 1) := by decide +kernel
theorem d1_146 : decode method_4_code 146 = .ok (.bipush 110, 2) := by decide +kernel
theorem d1_148 : decode method_4_code 148 = .ok (.castore, 1) := by decide +kernel
theorem d1_149 : decode method_4_code 149 = .ok (.dup, 1) := by decide +kernel
theorem d1_150 : decode method_4_code 150 = .ok (.iconst 3, 1) := by decide +kernel
theorem d1_151 : decode method_4_code 151 = .ok (.bipush 107, 2) := by decide +kernel
theorem d1_153 : decode method_4_code 153 = .ok (.castore, 1) := by decide +kernel
theorem d1_154 : decode method_4_code 154 = .ok (.dup, 1) := by decide +kernel
theorem d1_155 : decode method_4_code 155 = .ok (.iconst 4, 1) := by decide +kernel
theorem d1_156 : decode method_4_code 156 = .ok (.bipush 115, 2) := by decide +kernel
theorem d1_158 : decode method_4_code 158 = .ok (.castore, 1) := by decide +kernel
theorem d1_159 : decode method_4_code 159 = .ok (.areturn, 1) := by decide +kernel
theorem pn_com_example_iskati_iskati_entity_EntityFieldNamedPinLaw : plainName "com/example/iskati/iskati/entity/EntityFieldNamedPinLaw" = true := by first | (simp [plainName, overriddenIn]; done) | decide +kernel
theorem ef_rm1 (m : MethodId) (x0 : Int32) : entryFrame m #[(.int x0)] 1 = mkF m 0 #[iv x0] [] := by first | (simp [entryFrame, mkF, argsToLocals, Value.category]; done) | rfl
def Q_rm1 (Z : State) (p1_0 : Int32) (h0 : Heap) (n0 : Nat) (v : Option Value) (h : Heap) (L : List Loc) : Prop := ∃ (r : Addr), v = some (.ref r) ∧ Fr n0 L ∧ Keep h0 h [] ∧ (h0.size ≤ r) ∧ (Av Z h r .char (Int32.ofNat (own_base p1_0).length) (own_cv (own_base p1_0)) (.int (0 : Int32)))
set_option maxRecDepth 65536 in
set_option maxHeartbeats 40000000 in
theorem rm1 (l : Launch) (Z : State) (a0 : Array Value) (hw : ∀ d ∈ tables_1, d.before a0 Z = true) (ws : List Jvm.Cond) (p1_0 : Int32) (h0 : Heap) (n0 : Nat) (Z0 : n0 ≤ h0.size) :
    MetFree l (⟨"com/example/iskati/iskati/entity/EntityFieldNamedPinLaw", "baseOf", "(I)[C"⟩ : MethodName) (head1 (Jvm.Cond.code (⟨"com/example/iskati/iskati/entity/EntityFieldNamedPinLaw", "baseOf", "(I)[C"⟩ : MethodName) method_4_code 1 (some (.array .char)) :: ws) ({ frames := 0, cells := 1, slots := 10, locals := 0 } : Room)) (fun a U => a = #[(.int p1_0)] ∧ Z.Warmed39 U.vm ∧ U.heap = h0) (fun _ _ _ _ _ => True) (fun _ U o U' => ∃ v L, o = .returned v ∧ Q_rm1 Z p1_0 h0 n0 v U'.heap L ∧ FrameEnd U o U' L ({ frames := 0, cells := 1, slots := 10, locals := 0 } : Room).cells ({ frames := 0, cells := 1, slots := 10, locals := 0 } : Room).slots) := by
  refine MetFree.of_bodySF (plainFor_of_name pn_com_example_iskati_iskati_entity_EntityFieldNamedPinLaw) hisR ?_
  intro p e s m args below meth c s₁ Bd hml0 hP hK
  obtain ⟨rfl, hZ, hh⟩ := hP
  have hx := Bd.exec
  have hby := Bd.bytes
  have hml : c.maxLocals = 1 := hml0
  have hown : s.vm.findClass "com/example/iskati/iskati/entity/EntityFieldNamedPinLaw" = some m.cls := findClass_of_methodNamed Bd.named
  have hnm := (name_of_methodNamed Bd.named Bd.method).1
  have X0 : Stand p l e ({ frames := 0, cells := 1, slots := 10, locals := 0 } : Room) s m #[(.int p1_0)] below meth c s₁ [] 0 0 := Stand.of_body Bd
  have e0 : s₁.heap = h0 := by rw [← hh, Bd.state]; rfl
  have N0 := Fr.nil n0
  have pre0 : ∀ t, Steps p.tables e below (s₁.setTop (mkF m 0 #[iv p1_0] [])) t → Steps p.tables e below (s₁.setTop (entryFrame m #[(.int p1_0)] 1)) t := fun t k => castTop (ef_rm1 m p1_0) k
  have wo7 := hw _ (List.mem_of_getElem? (i := 7) rfl)
  have pre2 : ∀ t, Steps p.tables e below (s₁.setTop (mkF m 1 #[iv p1_0] [(.int p1_0)])) t → Steps p.tables e below (s₁.setTop (entryFrame m #[(.int p1_0)] 1)) t := by
    intro t_ k_
    refine pre0 _ ?_
    show Steps p.tables e below (s₁.setTop (mkF m 0 #[iv p1_0] [])) _
    refine XS.iloadN X0.here hx rfl (hb hby d1_0) rfl ?_
    exact k_
  by_cases hc1_1 : p1_0 = (0 : Int32)
  · skip
    obtain ⟨T3, h3, k3, X3, e3, E3, A3, st3⟩ := newP (aty := .char) X0 hx hZ wo7 e0 (g := (mkF m 5 #[iv p1_0] [(.int (5 : Int32))])) rfl (hb hby d1_5) rfl (by decide) (cap := 5) (by decide) (by decide) (by decide) (by decide)
    obtain ⟨b3, gg3⟩ : ∃ z, z = h0.size := ⟨_, rfl⟩
    rw [← gg3] at A3 st3
    have g4 : n0 ≤ b3 := Nat.le_trans Z0 (Nat.le_of_eq gg3.symm)
    have bz5 : h0.size ≤ b3 := Nat.le_trans (Keep.refl h0 []).1 (Nat.le_of_eq gg3.symm)
    have K7 : Keep h0 h3 [] := (Keep.refl h0 []).ext E3
    have f6 : Av Z h3 b3 .char (5 : Int32) [(.int (0 : Int32)), (.int (0 : Int32)), (.int (0 : Int32)), (.int (0 : Int32)), (.int (0 : Int32))] (.int (0 : Int32)) := ⟨_, (Arv.new A3 (by decide)).pad (pad_rep [] (.int (0 : Int32)) 5)⟩
    obtain ⟨kk8, cl8, Ar8, qq8, Sz8, Nn8, Hs8, Gf8⟩ := id f6
    have hin9 : ¬ ((0 : Int32) < 0 ∨ cl8.slots.size ≤ ((0 : Int32)).toNatClampNeg) := inb_of Sz8 ⟨by decide, by decide⟩
    obtain ⟨T10, h10, X10, e10, W10, st10⟩ := stC X3 hx hZ e3 Ar8 (j := (0 : Int32)) hin9 (g := (mkF m 11 #[iv p1_0] [(.int (110 : Int32)), (.int (0 : Int32)), (.ref b3), (.ref b3)])) rfl rfl (hb hby d1_11)
    have K11 : Keep h0 h10 [] := (K7).wr W10 (Or.inr bz5)
    have f12 : Av Z h10 b3 .char (5 : Int32) [(.int (110 : Int32)), (.int (0 : Int32)), (.int (0 : Int32)), (.int (0 : Int32)), (.int (0 : Int32))] (.int (0 : Int32)) := ⟨_, Arv.set Ar8 qq8 Sz8 Nn8 Hs8 Gf8 (by first | rfl | exact fits_nar_char _) W10 0 rfl (Nat.le_of_ble_eq_true rfl)⟩
    have N13 := Fr.snoc X10 N0 g4
    obtain ⟨kk14, cl14, Ar14, qq14, Sz14, Nn14, Hs14, Gf14⟩ := id f12
    have hin15 : ¬ ((1 : Int32) < 0 ∨ cl14.slots.size ≤ ((1 : Int32)).toNatClampNeg) := inb_of Sz14 ⟨by decide, by decide⟩
    obtain ⟨T16, h16, X16, e16, W16, st16⟩ := stC X10 hx hZ e10 Ar14 (j := (1 : Int32)) hin15 (g := (mkF m 16 #[iv p1_0] [(.int (97 : Int32)), (.int (1 : Int32)), (.ref b3), (.ref b3)])) rfl rfl (hb hby d1_16)
    have K17 : Keep h0 h16 [] := (K11).wr W16 (Or.inr bz5)
    have f18 : Av Z h16 b3 .char (5 : Int32) [(.int (110 : Int32)), (.int (97 : Int32)), (.int (0 : Int32)), (.int (0 : Int32)), (.int (0 : Int32))] (.int (0 : Int32)) := ⟨_, Arv.set Ar14 qq14 Sz14 Nn14 Hs14 Gf14 (by first | rfl | exact fits_nar_char _) W16 1 rfl (Nat.le_of_ble_eq_true rfl)⟩
    have N19 := Fr.snoc X16 N13 g4
    obtain ⟨kk20, cl20, Ar20, qq20, Sz20, Nn20, Hs20, Gf20⟩ := id f18
    have hin21 : ¬ ((2 : Int32) < 0 ∨ cl20.slots.size ≤ ((2 : Int32)).toNatClampNeg) := inb_of Sz20 ⟨by decide, by decide⟩
    obtain ⟨T22, h22, X22, e22, W22, st22⟩ := stC X16 hx hZ e16 Ar20 (j := (2 : Int32)) hin21 (g := (mkF m 21 #[iv p1_0] [(.int (109 : Int32)), (.int (2 : Int32)), (.ref b3), (.ref b3)])) rfl rfl (hb hby d1_21)
    have K23 : Keep h0 h22 [] := (K17).wr W22 (Or.inr bz5)
    have f24 : Av Z h22 b3 .char (5 : Int32) [(.int (110 : Int32)), (.int (97 : Int32)), (.int (109 : Int32)), (.int (0 : Int32)), (.int (0 : Int32))] (.int (0 : Int32)) := ⟨_, Arv.set Ar20 qq20 Sz20 Nn20 Hs20 Gf20 (by first | rfl | exact fits_nar_char _) W22 2 rfl (Nat.le_of_ble_eq_true rfl)⟩
    have N25 := Fr.snoc X22 N19 g4
    obtain ⟨kk26, cl26, Ar26, qq26, Sz26, Nn26, Hs26, Gf26⟩ := id f24
    have hin27 : ¬ ((3 : Int32) < 0 ∨ cl26.slots.size ≤ ((3 : Int32)).toNatClampNeg) := inb_of Sz26 ⟨by decide, by decide⟩
    obtain ⟨T28, h28, X28, e28, W28, st28⟩ := stC X22 hx hZ e22 Ar26 (j := (3 : Int32)) hin27 (g := (mkF m 26 #[iv p1_0] [(.int (101 : Int32)), (.int (3 : Int32)), (.ref b3), (.ref b3)])) rfl rfl (hb hby d1_26)
    have K29 : Keep h0 h28 [] := (K23).wr W28 (Or.inr bz5)
    have f30 : Av Z h28 b3 .char (5 : Int32) [(.int (110 : Int32)), (.int (97 : Int32)), (.int (109 : Int32)), (.int (101 : Int32)), (.int (0 : Int32))] (.int (0 : Int32)) := ⟨_, Arv.set Ar26 qq26 Sz26 Nn26 Hs26 Gf26 (by first | rfl | exact fits_nar_char _) W28 3 rfl (Nat.le_of_ble_eq_true rfl)⟩
    have N31 := Fr.snoc X28 N25 g4
    obtain ⟨kk32, cl32, Ar32, qq32, Sz32, Nn32, Hs32, Gf32⟩ := id f30
    have hin33 : ¬ ((4 : Int32) < 0 ∨ cl32.slots.size ≤ ((4 : Int32)).toNatClampNeg) := inb_of Sz32 ⟨by decide, by decide⟩
    obtain ⟨T34, h34, X34, e34, W34, st34⟩ := stC X28 hx hZ e28 Ar32 (j := (4 : Int32)) hin33 (g := (mkF m 31 #[iv p1_0] [(.int (115 : Int32)), (.int (4 : Int32)), (.ref b3), (.ref b3)])) rfl rfl (hb hby d1_31)
    have K35 : Keep h0 h34 [] := (K29).wr W34 (Or.inr bz5)
    have f36 : Av Z h34 b3 .char (5 : Int32) [(.int (110 : Int32)), (.int (97 : Int32)), (.int (109 : Int32)), (.int (101 : Int32)), (.int (115 : Int32))] (.int (0 : Int32)) := ⟨_, Arv.set Ar32 qq32 Sz32 Nn32 Hs32 Gf32 (by first | rfl | exact fits_nar_char _) W34 4 rfl (Nat.le_of_ble_eq_true rfl)⟩
    have N37 := Fr.snoc X34 N31 g4
    obtain ⟨fs, hr, hrun, hended, hW, hsame⟩ := X34.leave (v := some (.ref b3)) (fun h => by rw [Bd.returns] at h; cases h)
    refine ⟨_, _, pre2 _ ?_, hrun, hended, _, _, rfl, ?_, ⟨_, rfl⟩, hW, hsame.mono (by decide) (by decide)⟩
    · show Steps p.tables e below (s₁.setTop (mkF m 1 #[iv p1_0] [(.int p1_0)])) _
      refine XS.ifNo X0.here hx rfl (hb hby d1_1) rfl ((if0 _ _).trans (teq hc1_1).2) ?_
      show Steps p.tables e below (s₁.setTop (mkF m 4 #[iv p1_0] [])) _
      refine XS.iconst X0.here hx rfl (hb hby d1_4) ?_
      show Steps p.tables e below (s₁.setTop (mkF m 5 #[iv p1_0] [(.int (5 : Int32))])) _
      refine st3 _ ?_
      show Steps p.tables e below (T3.setTop (mkF m 7 #[iv p1_0] [(.ref b3)])) _
      refine XS.dup X3.here hx rfl (hb hby d1_7) rfl rfl ?_
      show Steps p.tables e below (T3.setTop (mkF m 8 #[iv p1_0] [(.ref b3), (.ref b3)])) _
      refine XS.iconst X3.here hx rfl (hb hby d1_8) ?_
      show Steps p.tables e below (T3.setTop (mkF m 9 #[iv p1_0] [(.int (0 : Int32)), (.ref b3), (.ref b3)])) _
      refine XS.bipush X3.here hx rfl (hb hby d1_9) ?_
      show Steps p.tables e below (T3.setTop (mkF m 11 #[iv p1_0] [(.int (110 : Int32)), (.int (0 : Int32)), (.ref b3), (.ref b3)])) _
      refine st10 _ ?_
      show Steps p.tables e below (T10.setTop (mkF m 12 #[iv p1_0] [(.ref b3)])) _
      refine XS.dup X10.here hx rfl (hb hby d1_12) rfl rfl ?_
      show Steps p.tables e below (T10.setTop (mkF m 13 #[iv p1_0] [(.ref b3), (.ref b3)])) _
      refine XS.iconst X10.here hx rfl (hb hby d1_13) ?_
      show Steps p.tables e below (T10.setTop (mkF m 14 #[iv p1_0] [(.int (1 : Int32)), (.ref b3), (.ref b3)])) _
      refine XS.bipush X10.here hx rfl (hb hby d1_14) ?_
      show Steps p.tables e below (T10.setTop (mkF m 16 #[iv p1_0] [(.int (97 : Int32)), (.int (1 : Int32)), (.ref b3), (.ref b3)])) _
      refine st16 _ ?_
      show Steps p.tables e below (T16.setTop (mkF m 17 #[iv p1_0] [(.ref b3)])) _
      refine XS.dup X16.here hx rfl (hb hby d1_17) rfl rfl ?_
      show Steps p.tables e below (T16.setTop (mkF m 18 #[iv p1_0] [(.ref b3), (.ref b3)])) _
      refine XS.iconst X16.here hx rfl (hb hby d1_18) ?_
      show Steps p.tables e below (T16.setTop (mkF m 19 #[iv p1_0] [(.int (2 : Int32)), (.ref b3), (.ref b3)])) _
      refine XS.bipush X16.here hx rfl (hb hby d1_19) ?_
      show Steps p.tables e below (T16.setTop (mkF m 21 #[iv p1_0] [(.int (109 : Int32)), (.int (2 : Int32)), (.ref b3), (.ref b3)])) _
      refine st22 _ ?_
      show Steps p.tables e below (T22.setTop (mkF m 22 #[iv p1_0] [(.ref b3)])) _
      refine XS.dup X22.here hx rfl (hb hby d1_22) rfl rfl ?_
      show Steps p.tables e below (T22.setTop (mkF m 23 #[iv p1_0] [(.ref b3), (.ref b3)])) _
      refine XS.iconst X22.here hx rfl (hb hby d1_23) ?_
      show Steps p.tables e below (T22.setTop (mkF m 24 #[iv p1_0] [(.int (3 : Int32)), (.ref b3), (.ref b3)])) _
      refine XS.bipush X22.here hx rfl (hb hby d1_24) ?_
      show Steps p.tables e below (T22.setTop (mkF m 26 #[iv p1_0] [(.int (101 : Int32)), (.int (3 : Int32)), (.ref b3), (.ref b3)])) _
      refine st28 _ ?_
      show Steps p.tables e below (T28.setTop (mkF m 27 #[iv p1_0] [(.ref b3)])) _
      refine XS.dup X28.here hx rfl (hb hby d1_27) rfl rfl ?_
      show Steps p.tables e below (T28.setTop (mkF m 28 #[iv p1_0] [(.ref b3), (.ref b3)])) _
      refine XS.iconst X28.here hx rfl (hb hby d1_28) ?_
      show Steps p.tables e below (T28.setTop (mkF m 29 #[iv p1_0] [(.int (4 : Int32)), (.ref b3), (.ref b3)])) _
      refine XS.bipush X28.here hx rfl (hb hby d1_29) ?_
      show Steps p.tables e below (T28.setTop (mkF m 31 #[iv p1_0] [(.int (115 : Int32)), (.int (4 : Int32)), (.ref b3), (.ref b3)])) _
      refine st34 _ ?_
      show Steps p.tables e below (T34.setTop (mkF m 32 #[iv p1_0] [(.ref b3)])) _
      exact retOut X34 hx Bd.returns rfl (Or.inr (Or.inr (Or.inr (Or.inr ⟨rfl, rfl, rfl⟩)))) (hb hby d1_32) hr
    · show Q_rm1 Z _ h0 n0 _ T34.heap _
      rw [e34]
      exact ⟨b3, rfl, N37, (K35), bz5, (by rw [show own_base p1_0 = [110, 97, 109, 101, 115] from by unfold own_base; rw [if_pos hc1_1]]; exact f36)⟩
  · skip
    have pre39 : ∀ t, Steps p.tables e below (s₁.setTop (mkF m 35 #[iv p1_0] [(.int (1 : Int32)), (.int p1_0)])) t → Steps p.tables e below (s₁.setTop (entryFrame m #[(.int p1_0)] 1)) t := by
      intro t_ k_
      refine pre2 _ ?_
      show Steps p.tables e below (s₁.setTop (mkF m 1 #[iv p1_0] [(.int p1_0)])) _
      refine XS.ifYes X0.here hx rfl (pc0 := 1) (pc' := 33) rfl (hb hby d1_1) rfl ((if0 _ _).trans (feq hc1_1).2) (by decide) (by decide) ?_
      show Steps p.tables e below (s₁.setTop (mkF m 33 #[iv p1_0] [])) _
      refine XS.iloadN X0.here hx rfl (hb hby d1_33) rfl ?_
      show Steps p.tables e below (s₁.setTop (mkF m 34 #[iv p1_0] [(.int p1_0)])) _
      refine XS.iconst X0.here hx rfl (hb hby d1_34) ?_
      exact k_
    by_cases hc35_38 : p1_0 = (1 : Int32)
    · skip
      obtain ⟨T40, h40, k40, X40, e40, E40, A40, st40⟩ := newP (aty := .char) X0 hx hZ wo7 e0 (g := (mkF m 40 #[iv p1_0] [(.int (10 : Int32))])) rfl (hb hby d1_40) rfl (by decide) (cap := 10) (by decide) (by decide) (by decide) (by decide)
      obtain ⟨b40, gg40⟩ : ∃ z, z = h0.size := ⟨_, rfl⟩
      rw [← gg40] at A40 st40
      have g41 : n0 ≤ b40 := Nat.le_trans Z0 (Nat.le_of_eq gg40.symm)
      have bz42 : h0.size ≤ b40 := Nat.le_trans (Keep.refl h0 []).1 (Nat.le_of_eq gg40.symm)
      have K44 : Keep h0 h40 [] := (Keep.refl h0 []).ext E40
      have f43 : Av Z h40 b40 .char (10 : Int32) [(.int (0 : Int32)), (.int (0 : Int32)), (.int (0 : Int32)), (.int (0 : Int32)), (.int (0 : Int32)), (.int (0 : Int32)), (.int (0 : Int32)), (.int (0 : Int32)), (.int (0 : Int32)), (.int (0 : Int32))] (.int (0 : Int32)) := ⟨_, (Arv.new A40 (by decide)).pad (pad_rep [] (.int (0 : Int32)) 10)⟩
      obtain ⟨kk45, cl45, Ar45, qq45, Sz45, Nn45, Hs45, Gf45⟩ := id f43
      have hin46 : ¬ ((0 : Int32) < 0 ∨ cl45.slots.size ≤ ((0 : Int32)).toNatClampNeg) := inb_of Sz45 ⟨by decide, by decide⟩
      obtain ⟨T47, h47, X47, e47, W47, st47⟩ := stC X40 hx hZ e40 Ar45 (j := (0 : Int32)) hin46 (g := (mkF m 46 #[iv p1_0] [(.int (97 : Int32)), (.int (0 : Int32)), (.ref b40), (.ref b40)])) rfl rfl (hb hby d1_46)
      have K48 : Keep h0 h47 [] := (K44).wr W47 (Or.inr bz42)
      have f49 : Av Z h47 b40 .char (10 : Int32) [(.int (97 : Int32)), (.int (0 : Int32)), (.int (0 : Int32)), (.int (0 : Int32)), (.int (0 : Int32)), (.int (0 : Int32)), (.int (0 : Int32)), (.int (0 : Int32)), (.int (0 : Int32)), (.int (0 : Int32))] (.int (0 : Int32)) := ⟨_, Arv.set Ar45 qq45 Sz45 Nn45 Hs45 Gf45 (by first | rfl | exact fits_nar_char _) W47 0 rfl (Nat.le_of_ble_eq_true rfl)⟩
      have N50 := Fr.snoc X47 N0 g41
      obtain ⟨kk51, cl51, Ar51, qq51, Sz51, Nn51, Hs51, Gf51⟩ := id f49
      have hin52 : ¬ ((1 : Int32) < 0 ∨ cl51.slots.size ≤ ((1 : Int32)).toNatClampNeg) := inb_of Sz51 ⟨by decide, by decide⟩
      obtain ⟨T53, h53, X53, e53, W53, st53⟩ := stC X47 hx hZ e47 Ar51 (j := (1 : Int32)) hin52 (g := (mkF m 51 #[iv p1_0] [(.int (116 : Int32)), (.int (1 : Int32)), (.ref b40), (.ref b40)])) rfl rfl (hb hby d1_51)
      have K54 : Keep h0 h53 [] := (K48).wr W53 (Or.inr bz42)
      have f55 : Av Z h53 b40 .char (10 : Int32) [(.int (97 : Int32)), (.int (116 : Int32)), (.int (0 : Int32)), (.int (0 : Int32)), (.int (0 : Int32)), (.int (0 : Int32)), (.int (0 : Int32)), (.int (0 : Int32)), (.int (0 : Int32)), (.int (0 : Int32))] (.int (0 : Int32)) := ⟨_, Arv.set Ar51 qq51 Sz51 Nn51 Hs51 Gf51 (by first | rfl | exact fits_nar_char _) W53 1 rfl (Nat.le_of_ble_eq_true rfl)⟩
      have N56 := Fr.snoc X53 N50 g41
      obtain ⟨kk57, cl57, Ar57, qq57, Sz57, Nn57, Hs57, Gf57⟩ := id f55
      have hin58 : ¬ ((2 : Int32) < 0 ∨ cl57.slots.size ≤ ((2 : Int32)).toNatClampNeg) := inb_of Sz57 ⟨by decide, by decide⟩
      obtain ⟨T59, h59, X59, e59, W59, st59⟩ := stC X53 hx hZ e53 Ar57 (j := (2 : Int32)) hin58 (g := (mkF m 56 #[iv p1_0] [(.int (116 : Int32)), (.int (2 : Int32)), (.ref b40), (.ref b40)])) rfl rfl (hb hby d1_56)
      have K60 : Keep h0 h59 [] := (K54).wr W59 (Or.inr bz42)
      have f61 : Av Z h59 b40 .char (10 : Int32) [(.int (97 : Int32)), (.int (116 : Int32)), (.int (116 : Int32)), (.int (0 : Int32)), (.int (0 : Int32)), (.int (0 : Int32)), (.int (0 : Int32)), (.int (0 : Int32)), (.int (0 : Int32)), (.int (0 : Int32))] (.int (0 : Int32)) := ⟨_, Arv.set Ar57 qq57 Sz57 Nn57 Hs57 Gf57 (by first | rfl | exact fits_nar_char _) W59 2 rfl (Nat.le_of_ble_eq_true rfl)⟩
      have N62 := Fr.snoc X59 N56 g41
      obtain ⟨kk63, cl63, Ar63, qq63, Sz63, Nn63, Hs63, Gf63⟩ := id f61
      have hin64 : ¬ ((3 : Int32) < 0 ∨ cl63.slots.size ≤ ((3 : Int32)).toNatClampNeg) := inb_of Sz63 ⟨by decide, by decide⟩
      obtain ⟨T65, h65, X65, e65, W65, st65⟩ := stC X59 hx hZ e59 Ar63 (j := (3 : Int32)) hin64 (g := (mkF m 61 #[iv p1_0] [(.int (114 : Int32)), (.int (3 : Int32)), (.ref b40), (.ref b40)])) rfl rfl (hb hby d1_61)
      have K66 : Keep h0 h65 [] := (K60).wr W65 (Or.inr bz42)
      have f67 : Av Z h65 b40 .char (10 : Int32) [(.int (97 : Int32)), (.int (116 : Int32)), (.int (116 : Int32)), (.int (114 : Int32)), (.int (0 : Int32)), (.int (0 : Int32)), (.int (0 : Int32)), (.int (0 : Int32)), (.int (0 : Int32)), (.int (0 : Int32))] (.int (0 : Int32)) := ⟨_, Arv.set Ar63 qq63 Sz63 Nn63 Hs63 Gf63 (by first | rfl | exact fits_nar_char _) W65 3 rfl (Nat.le_of_ble_eq_true rfl)⟩
      have N68 := Fr.snoc X65 N62 g41
      obtain ⟨kk69, cl69, Ar69, qq69, Sz69, Nn69, Hs69, Gf69⟩ := id f67
      have hin70 : ¬ ((4 : Int32) < 0 ∨ cl69.slots.size ≤ ((4 : Int32)).toNatClampNeg) := inb_of Sz69 ⟨by decide, by decide⟩
      obtain ⟨T71, h71, X71, e71, W71, st71⟩ := stC X65 hx hZ e65 Ar69 (j := (4 : Int32)) hin70 (g := (mkF m 66 #[iv p1_0] [(.int (105 : Int32)), (.int (4 : Int32)), (.ref b40), (.ref b40)])) rfl rfl (hb hby d1_66)
      have K72 : Keep h0 h71 [] := (K66).wr W71 (Or.inr bz42)
      have f73 : Av Z h71 b40 .char (10 : Int32) [(.int (97 : Int32)), (.int (116 : Int32)), (.int (116 : Int32)), (.int (114 : Int32)), (.int (105 : Int32)), (.int (0 : Int32)), (.int (0 : Int32)), (.int (0 : Int32)), (.int (0 : Int32)), (.int (0 : Int32))] (.int (0 : Int32)) := ⟨_, Arv.set Ar69 qq69 Sz69 Nn69 Hs69 Gf69 (by first | rfl | exact fits_nar_char _) W71 4 rfl (Nat.le_of_ble_eq_true rfl)⟩
      have N74 := Fr.snoc X71 N68 g41
      obtain ⟨kk75, cl75, Ar75, qq75, Sz75, Nn75, Hs75, Gf75⟩ := id f73
      have hin76 : ¬ ((5 : Int32) < 0 ∨ cl75.slots.size ≤ ((5 : Int32)).toNatClampNeg) := inb_of Sz75 ⟨by decide, by decide⟩
      obtain ⟨T77, h77, X77, e77, W77, st77⟩ := stC X71 hx hZ e71 Ar75 (j := (5 : Int32)) hin76 (g := (mkF m 71 #[iv p1_0] [(.int (98 : Int32)), (.int (5 : Int32)), (.ref b40), (.ref b40)])) rfl rfl (hb hby d1_71)
      have K78 : Keep h0 h77 [] := (K72).wr W77 (Or.inr bz42)
      have f79 : Av Z h77 b40 .char (10 : Int32) [(.int (97 : Int32)), (.int (116 : Int32)), (.int (116 : Int32)), (.int (114 : Int32)), (.int (105 : Int32)), (.int (98 : Int32)), (.int (0 : Int32)), (.int (0 : Int32)), (.int (0 : Int32)), (.int (0 : Int32))] (.int (0 : Int32)) := ⟨_, Arv.set Ar75 qq75 Sz75 Nn75 Hs75 Gf75 (by first | rfl | exact fits_nar_char _) W77 5 rfl (Nat.le_of_ble_eq_true rfl)⟩
      have N80 := Fr.snoc X77 N74 g41
      obtain ⟨kk81, cl81, Ar81, qq81, Sz81, Nn81, Hs81, Gf81⟩ := id f79
      have hin82 : ¬ ((6 : Int32) < 0 ∨ cl81.slots.size ≤ ((6 : Int32)).toNatClampNeg) := inb_of Sz81 ⟨by decide, by decide⟩
      obtain ⟨T83, h83, X83, e83, W83, st83⟩ := stC X77 hx hZ e77 Ar81 (j := (6 : Int32)) hin82 (g := (mkF m 77 #[iv p1_0] [(.int (117 : Int32)), (.int (6 : Int32)), (.ref b40), (.ref b40)])) rfl rfl (hb hby d1_77)
      have K84 : Keep h0 h83 [] := (K78).wr W83 (Or.inr bz42)
      have f85 : Av Z h83 b40 .char (10 : Int32) [(.int (97 : Int32)), (.int (116 : Int32)), (.int (116 : Int32)), (.int (114 : Int32)), (.int (105 : Int32)), (.int (98 : Int32)), (.int (117 : Int32)), (.int (0 : Int32)), (.int (0 : Int32)), (.int (0 : Int32))] (.int (0 : Int32)) := ⟨_, Arv.set Ar81 qq81 Sz81 Nn81 Hs81 Gf81 (by first | rfl | exact fits_nar_char _) W83 6 rfl (Nat.le_of_ble_eq_true rfl)⟩
      have N86 := Fr.snoc X83 N80 g41
      obtain ⟨kk87, cl87, Ar87, qq87, Sz87, Nn87, Hs87, Gf87⟩ := id f85
      have hin88 : ¬ ((7 : Int32) < 0 ∨ cl87.slots.size ≤ ((7 : Int32)).toNatClampNeg) := inb_of Sz87 ⟨by decide, by decide⟩
      obtain ⟨T89, h89, X89, e89, W89, st89⟩ := stC X83 hx hZ e83 Ar87 (j := (7 : Int32)) hin88 (g := (mkF m 83 #[iv p1_0] [(.int (116 : Int32)), (.int (7 : Int32)), (.ref b40), (.ref b40)])) rfl rfl (hb hby d1_83)
      have K90 : Keep h0 h89 [] := (K84).wr W89 (Or.inr bz42)
      have f91 : Av Z h89 b40 .char (10 : Int32) [(.int (97 : Int32)), (.int (116 : Int32)), (.int (116 : Int32)), (.int (114 : Int32)), (.int (105 : Int32)), (.int (98 : Int32)), (.int (117 : Int32)), (.int (116 : Int32)), (.int (0 : Int32)), (.int (0 : Int32))] (.int (0 : Int32)) := ⟨_, Arv.set Ar87 qq87 Sz87 Nn87 Hs87 Gf87 (by first | rfl | exact fits_nar_char _) W89 7 rfl (Nat.le_of_ble_eq_true rfl)⟩
      have N92 := Fr.snoc X89 N86 g41
      obtain ⟨kk93, cl93, Ar93, qq93, Sz93, Nn93, Hs93, Gf93⟩ := id f91
      have hin94 : ¬ ((8 : Int32) < 0 ∨ cl93.slots.size ≤ ((8 : Int32)).toNatClampNeg) := inb_of Sz93 ⟨by decide, by decide⟩
      obtain ⟨T95, h95, X95, e95, W95, st95⟩ := stC X89 hx hZ e89 Ar93 (j := (8 : Int32)) hin94 (g := (mkF m 89 #[iv p1_0] [(.int (101 : Int32)), (.int (8 : Int32)), (.ref b40), (.ref b40)])) rfl rfl (hb hby d1_89)
      have K96 : Keep h0 h95 [] := (K90).wr W95 (Or.inr bz42)
      have f97 : Av Z h95 b40 .char (10 : Int32) [(.int (97 : Int32)), (.int (116 : Int32)), (.int (116 : Int32)), (.int (114 : Int32)), (.int (105 : Int32)), (.int (98 : Int32)), (.int (117 : Int32)), (.int (116 : Int32)), (.int (101 : Int32)), (.int (0 : Int32))] (.int (0 : Int32)) := ⟨_, Arv.set Ar93 qq93 Sz93 Nn93 Hs93 Gf93 (by first | rfl | exact fits_nar_char _) W95 8 rfl (Nat.le_of_ble_eq_true rfl)⟩
      have N98 := Fr.snoc X95 N92 g41
      obtain ⟨kk99, cl99, Ar99, qq99, Sz99, Nn99, Hs99, Gf99⟩ := id f97
      have hin100 : ¬ ((9 : Int32) < 0 ∨ cl99.slots.size ≤ ((9 : Int32)).toNatClampNeg) := inb_of Sz99 ⟨by decide, by decide⟩
      obtain ⟨T101, h101, X101, e101, W101, st101⟩ := stC X95 hx hZ e95 Ar99 (j := (9 : Int32)) hin100 (g := (mkF m 95 #[iv p1_0] [(.int (115 : Int32)), (.int (9 : Int32)), (.ref b40), (.ref b40)])) rfl rfl (hb hby d1_95)
      have K102 : Keep h0 h101 [] := (K96).wr W101 (Or.inr bz42)
      have f103 : Av Z h101 b40 .char (10 : Int32) [(.int (97 : Int32)), (.int (116 : Int32)), (.int (116 : Int32)), (.int (114 : Int32)), (.int (105 : Int32)), (.int (98 : Int32)), (.int (117 : Int32)), (.int (116 : Int32)), (.int (101 : Int32)), (.int (115 : Int32))] (.int (0 : Int32)) := ⟨_, Arv.set Ar99 qq99 Sz99 Nn99 Hs99 Gf99 (by first | rfl | exact fits_nar_char _) W101 9 rfl (Nat.le_of_ble_eq_true rfl)⟩
      have N104 := Fr.snoc X101 N98 g41
      obtain ⟨fs, hr, hrun, hended, hW, hsame⟩ := X101.leave (v := some (.ref b40)) (fun h => by rw [Bd.returns] at h; cases h)
      refine ⟨_, _, pre39 _ ?_, hrun, hended, _, _, rfl, ?_, ⟨_, rfl⟩, hW, hsame.mono (by decide) (by decide)⟩
      · show Steps p.tables e below (s₁.setTop (mkF m 35 #[iv p1_0] [(.int (1 : Int32)), (.int p1_0)])) _
        refine XS.icmpNo X0.here hx rfl (hb hby d1_35) rfl (teq hc35_38).2 ?_
        show Steps p.tables e below (s₁.setTop (mkF m 38 #[iv p1_0] [])) _
        refine XS.bipush X0.here hx rfl (hb hby d1_38) ?_
        show Steps p.tables e below (s₁.setTop (mkF m 40 #[iv p1_0] [(.int (10 : Int32))])) _
        refine st40 _ ?_
        show Steps p.tables e below (T40.setTop (mkF m 42 #[iv p1_0] [(.ref b40)])) _
        refine XS.dup X40.here hx rfl (hb hby d1_42) rfl rfl ?_
        show Steps p.tables e below (T40.setTop (mkF m 43 #[iv p1_0] [(.ref b40), (.ref b40)])) _
        refine XS.iconst X40.here hx rfl (hb hby d1_43) ?_
        show Steps p.tables e below (T40.setTop (mkF m 44 #[iv p1_0] [(.int (0 : Int32)), (.ref b40), (.ref b40)])) _
        refine XS.bipush X40.here hx rfl (hb hby d1_44) ?_
        show Steps p.tables e below (T40.setTop (mkF m 46 #[iv p1_0] [(.int (97 : Int32)), (.int (0 : Int32)), (.ref b40), (.ref b40)])) _
        refine st47 _ ?_
        show Steps p.tables e below (T47.setTop (mkF m 47 #[iv p1_0] [(.ref b40)])) _
        refine XS.dup X47.here hx rfl (hb hby d1_47) rfl rfl ?_
        show Steps p.tables e below (T47.setTop (mkF m 48 #[iv p1_0] [(.ref b40), (.ref b40)])) _
        refine XS.iconst X47.here hx rfl (hb hby d1_48) ?_
        show Steps p.tables e below (T47.setTop (mkF m 49 #[iv p1_0] [(.int (1 : Int32)), (.ref b40), (.ref b40)])) _
        refine XS.bipush X47.here hx rfl (hb hby d1_49) ?_
        show Steps p.tables e below (T47.setTop (mkF m 51 #[iv p1_0] [(.int (116 : Int32)), (.int (1 : Int32)), (.ref b40), (.ref b40)])) _
        refine st53 _ ?_
        show Steps p.tables e below (T53.setTop (mkF m 52 #[iv p1_0] [(.ref b40)])) _
        refine XS.dup X53.here hx rfl (hb hby d1_52) rfl rfl ?_
        show Steps p.tables e below (T53.setTop (mkF m 53 #[iv p1_0] [(.ref b40), (.ref b40)])) _
        refine XS.iconst X53.here hx rfl (hb hby d1_53) ?_
        show Steps p.tables e below (T53.setTop (mkF m 54 #[iv p1_0] [(.int (2 : Int32)), (.ref b40), (.ref b40)])) _
        refine XS.bipush X53.here hx rfl (hb hby d1_54) ?_
        show Steps p.tables e below (T53.setTop (mkF m 56 #[iv p1_0] [(.int (116 : Int32)), (.int (2 : Int32)), (.ref b40), (.ref b40)])) _
        refine st59 _ ?_
        show Steps p.tables e below (T59.setTop (mkF m 57 #[iv p1_0] [(.ref b40)])) _
        refine XS.dup X59.here hx rfl (hb hby d1_57) rfl rfl ?_
        show Steps p.tables e below (T59.setTop (mkF m 58 #[iv p1_0] [(.ref b40), (.ref b40)])) _
        refine XS.iconst X59.here hx rfl (hb hby d1_58) ?_
        show Steps p.tables e below (T59.setTop (mkF m 59 #[iv p1_0] [(.int (3 : Int32)), (.ref b40), (.ref b40)])) _
        refine XS.bipush X59.here hx rfl (hb hby d1_59) ?_
        show Steps p.tables e below (T59.setTop (mkF m 61 #[iv p1_0] [(.int (114 : Int32)), (.int (3 : Int32)), (.ref b40), (.ref b40)])) _
        refine st65 _ ?_
        show Steps p.tables e below (T65.setTop (mkF m 62 #[iv p1_0] [(.ref b40)])) _
        refine XS.dup X65.here hx rfl (hb hby d1_62) rfl rfl ?_
        show Steps p.tables e below (T65.setTop (mkF m 63 #[iv p1_0] [(.ref b40), (.ref b40)])) _
        refine XS.iconst X65.here hx rfl (hb hby d1_63) ?_
        show Steps p.tables e below (T65.setTop (mkF m 64 #[iv p1_0] [(.int (4 : Int32)), (.ref b40), (.ref b40)])) _
        refine XS.bipush X65.here hx rfl (hb hby d1_64) ?_
        show Steps p.tables e below (T65.setTop (mkF m 66 #[iv p1_0] [(.int (105 : Int32)), (.int (4 : Int32)), (.ref b40), (.ref b40)])) _
        refine st71 _ ?_
        show Steps p.tables e below (T71.setTop (mkF m 67 #[iv p1_0] [(.ref b40)])) _
        refine XS.dup X71.here hx rfl (hb hby d1_67) rfl rfl ?_
        show Steps p.tables e below (T71.setTop (mkF m 68 #[iv p1_0] [(.ref b40), (.ref b40)])) _
        refine XS.iconst X71.here hx rfl (hb hby d1_68) ?_
        show Steps p.tables e below (T71.setTop (mkF m 69 #[iv p1_0] [(.int (5 : Int32)), (.ref b40), (.ref b40)])) _
        refine XS.bipush X71.here hx rfl (hb hby d1_69) ?_
        show Steps p.tables e below (T71.setTop (mkF m 71 #[iv p1_0] [(.int (98 : Int32)), (.int (5 : Int32)), (.ref b40), (.ref b40)])) _
        refine st77 _ ?_
        show Steps p.tables e below (T77.setTop (mkF m 72 #[iv p1_0] [(.ref b40)])) _
        refine XS.dup X77.here hx rfl (hb hby d1_72) rfl rfl ?_
        show Steps p.tables e below (T77.setTop (mkF m 73 #[iv p1_0] [(.ref b40), (.ref b40)])) _
        refine XS.bipush X77.here hx rfl (hb hby d1_73) ?_
        show Steps p.tables e below (T77.setTop (mkF m 75 #[iv p1_0] [(.int (6 : Int32)), (.ref b40), (.ref b40)])) _
        refine XS.bipush X77.here hx rfl (hb hby d1_75) ?_
        show Steps p.tables e below (T77.setTop (mkF m 77 #[iv p1_0] [(.int (117 : Int32)), (.int (6 : Int32)), (.ref b40), (.ref b40)])) _
        refine st83 _ ?_
        show Steps p.tables e below (T83.setTop (mkF m 78 #[iv p1_0] [(.ref b40)])) _
        refine XS.dup X83.here hx rfl (hb hby d1_78) rfl rfl ?_
        show Steps p.tables e below (T83.setTop (mkF m 79 #[iv p1_0] [(.ref b40), (.ref b40)])) _
        refine XS.bipush X83.here hx rfl (hb hby d1_79) ?_
        show Steps p.tables e below (T83.setTop (mkF m 81 #[iv p1_0] [(.int (7 : Int32)), (.ref b40), (.ref b40)])) _
        refine XS.bipush X83.here hx rfl (hb hby d1_81) ?_
        show Steps p.tables e below (T83.setTop (mkF m 83 #[iv p1_0] [(.int (116 : Int32)), (.int (7 : Int32)), (.ref b40), (.ref b40)])) _
        refine st89 _ ?_
        show Steps p.tables e below (T89.setTop (mkF m 84 #[iv p1_0] [(.ref b40)])) _
        refine XS.dup X89.here hx rfl (hb hby d1_84) rfl rfl ?_
        show Steps p.tables e below (T89.setTop (mkF m 85 #[iv p1_0] [(.ref b40), (.ref b40)])) _
        refine XS.bipush X89.here hx rfl (hb hby d1_85) ?_
        show Steps p.tables e below (T89.setTop (mkF m 87 #[iv p1_0] [(.int (8 : Int32)), (.ref b40), (.ref b40)])) _
        refine XS.bipush X89.here hx rfl (hb hby d1_87) ?_
        show Steps p.tables e below (T89.setTop (mkF m 89 #[iv p1_0] [(.int (101 : Int32)), (.int (8 : Int32)), (.ref b40), (.ref b40)])) _
        refine st95 _ ?_
        show Steps p.tables e below (T95.setTop (mkF m 90 #[iv p1_0] [(.ref b40)])) _
        refine XS.dup X95.here hx rfl (hb hby d1_90) rfl rfl ?_
        show Steps p.tables e below (T95.setTop (mkF m 91 #[iv p1_0] [(.ref b40), (.ref b40)])) _
        refine XS.bipush X95.here hx rfl (hb hby d1_91) ?_
        show Steps p.tables e below (T95.setTop (mkF m 93 #[iv p1_0] [(.int (9 : Int32)), (.ref b40), (.ref b40)])) _
        refine XS.bipush X95.here hx rfl (hb hby d1_93) ?_
        show Steps p.tables e below (T95.setTop (mkF m 95 #[iv p1_0] [(.int (115 : Int32)), (.int (9 : Int32)), (.ref b40), (.ref b40)])) _
        refine st101 _ ?_
        show Steps p.tables e below (T101.setTop (mkF m 96 #[iv p1_0] [(.ref b40)])) _
        exact retOut X101 hx Bd.returns rfl (Or.inr (Or.inr (Or.inr (Or.inr ⟨rfl, rfl, rfl⟩)))) (hb hby d1_96) hr
      · show Q_rm1 Z _ h0 n0 _ T101.heap _
        rw [e101]
        exact ⟨b40, rfl, N104, (K102), bz42, (by rw [show own_base p1_0 = [97, 116, 116, 114, 105, 98, 117, 116, 101, 115] from by unfold own_base; rw [if_neg hc1_1, if_pos hc35_38]]; exact f103)⟩
    · skip
      have pre106 : ∀ t, Steps p.tables e below (s₁.setTop (mkF m 99 #[iv p1_0] [(.int (2 : Int32)), (.int p1_0)])) t → Steps p.tables e below (s₁.setTop (entryFrame m #[(.int p1_0)] 1)) t := by
        intro t_ k_
        refine pre39 _ ?_
        show Steps p.tables e below (s₁.setTop (mkF m 35 #[iv p1_0] [(.int (1 : Int32)), (.int p1_0)])) _
        refine XS.icmpYes X0.here hx rfl (pc0 := 35) (pc' := 97) rfl (hb hby d1_35) rfl (feq hc35_38).2 (by decide) (by decide) ?_
        show Steps p.tables e below (s₁.setTop (mkF m 97 #[iv p1_0] [])) _
        refine XS.iloadN X0.here hx rfl (hb hby d1_97) rfl ?_
        show Steps p.tables e below (s₁.setTop (mkF m 98 #[iv p1_0] [(.int p1_0)])) _
        refine XS.iconst X0.here hx rfl (hb hby d1_98) ?_
        exact k_
      by_cases hc99_105 : p1_0 = (2 : Int32)
      · skip
        obtain ⟨T107, h107, k107, X107, e107, E107, A107, st107⟩ := newP (aty := .char) X0 hx hZ wo7 e0 (g := (mkF m 103 #[iv p1_0] [(.int (5 : Int32))])) rfl (hb hby d1_103) rfl (by decide) (cap := 5) (by decide) (by decide) (by decide) (by decide)
        obtain ⟨b107, gg107⟩ : ∃ z, z = h0.size := ⟨_, rfl⟩
        rw [← gg107] at A107 st107
        have g108 : n0 ≤ b107 := Nat.le_trans Z0 (Nat.le_of_eq gg107.symm)
        have bz109 : h0.size ≤ b107 := Nat.le_trans (Keep.refl h0 []).1 (Nat.le_of_eq gg107.symm)
        have K111 : Keep h0 h107 [] := (Keep.refl h0 []).ext E107
        have f110 : Av Z h107 b107 .char (5 : Int32) [(.int (0 : Int32)), (.int (0 : Int32)), (.int (0 : Int32)), (.int (0 : Int32)), (.int (0 : Int32))] (.int (0 : Int32)) := ⟨_, (Arv.new A107 (by decide)).pad (pad_rep [] (.int (0 : Int32)) 5)⟩
        obtain ⟨kk112, cl112, Ar112, qq112, Sz112, Nn112, Hs112, Gf112⟩ := id f110
        have hin113 : ¬ ((0 : Int32) < 0 ∨ cl112.slots.size ≤ ((0 : Int32)).toNatClampNeg) := inb_of Sz112 ⟨by decide, by decide⟩
        obtain ⟨T114, h114, X114, e114, W114, st114⟩ := stC X107 hx hZ e107 Ar112 (j := (0 : Int32)) hin113 (g := (mkF m 109 #[iv p1_0] [(.int (116 : Int32)), (.int (0 : Int32)), (.ref b107), (.ref b107)])) rfl rfl (hb hby d1_109)
        have K115 : Keep h0 h114 [] := (K111).wr W114 (Or.inr bz109)
        have f116 : Av Z h114 b107 .char (5 : Int32) [(.int (116 : Int32)), (.int (0 : Int32)), (.int (0 : Int32)), (.int (0 : Int32)), (.int (0 : Int32))] (.int (0 : Int32)) := ⟨_, Arv.set Ar112 qq112 Sz112 Nn112 Hs112 Gf112 (by first | rfl | exact fits_nar_char _) W114 0 rfl (Nat.le_of_ble_eq_true rfl)⟩
        have N117 := Fr.snoc X114 N0 g108
        obtain ⟨kk118, cl118, Ar118, qq118, Sz118, Nn118, Hs118, Gf118⟩ := id f116
        have hin119 : ¬ ((1 : Int32) < 0 ∨ cl118.slots.size ≤ ((1 : Int32)).toNatClampNeg) := inb_of Sz118 ⟨by decide, by decide⟩
        obtain ⟨T120, h120, X120, e120, W120, st120⟩ := stC X114 hx hZ e114 Ar118 (j := (1 : Int32)) hin119 (g := (mkF m 114 #[iv p1_0] [(.int (121 : Int32)), (.int (1 : Int32)), (.ref b107), (.ref b107)])) rfl rfl (hb hby d1_114)
        have K121 : Keep h0 h120 [] := (K115).wr W120 (Or.inr bz109)
        have f122 : Av Z h120 b107 .char (5 : Int32) [(.int (116 : Int32)), (.int (121 : Int32)), (.int (0 : Int32)), (.int (0 : Int32)), (.int (0 : Int32))] (.int (0 : Int32)) := ⟨_, Arv.set Ar118 qq118 Sz118 Nn118 Hs118 Gf118 (by first | rfl | exact fits_nar_char _) W120 1 rfl (Nat.le_of_ble_eq_true rfl)⟩
        have N123 := Fr.snoc X120 N117 g108
        obtain ⟨kk124, cl124, Ar124, qq124, Sz124, Nn124, Hs124, Gf124⟩ := id f122
        have hin125 : ¬ ((2 : Int32) < 0 ∨ cl124.slots.size ≤ ((2 : Int32)).toNatClampNeg) := inb_of Sz124 ⟨by decide, by decide⟩
        obtain ⟨T126, h126, X126, e126, W126, st126⟩ := stC X120 hx hZ e120 Ar124 (j := (2 : Int32)) hin125 (g := (mkF m 119 #[iv p1_0] [(.int (112 : Int32)), (.int (2 : Int32)), (.ref b107), (.ref b107)])) rfl rfl (hb hby d1_119)
        have K127 : Keep h0 h126 [] := (K121).wr W126 (Or.inr bz109)
        have f128 : Av Z h126 b107 .char (5 : Int32) [(.int (116 : Int32)), (.int (121 : Int32)), (.int (112 : Int32)), (.int (0 : Int32)), (.int (0 : Int32))] (.int (0 : Int32)) := ⟨_, Arv.set Ar124 qq124 Sz124 Nn124 Hs124 Gf124 (by first | rfl | exact fits_nar_char _) W126 2 rfl (Nat.le_of_ble_eq_true rfl)⟩
        have N129 := Fr.snoc X126 N123 g108
        obtain ⟨kk130, cl130, Ar130, qq130, Sz130, Nn130, Hs130, Gf130⟩ := id f128
        have hin131 : ¬ ((3 : Int32) < 0 ∨ cl130.slots.size ≤ ((3 : Int32)).toNatClampNeg) := inb_of Sz130 ⟨by decide, by decide⟩
        obtain ⟨T132, h132, X132, e132, W132, st132⟩ := stC X126 hx hZ e126 Ar130 (j := (3 : Int32)) hin131 (g := (mkF m 124 #[iv p1_0] [(.int (101 : Int32)), (.int (3 : Int32)), (.ref b107), (.ref b107)])) rfl rfl (hb hby d1_124)
        have K133 : Keep h0 h132 [] := (K127).wr W132 (Or.inr bz109)
        have f134 : Av Z h132 b107 .char (5 : Int32) [(.int (116 : Int32)), (.int (121 : Int32)), (.int (112 : Int32)), (.int (101 : Int32)), (.int (0 : Int32))] (.int (0 : Int32)) := ⟨_, Arv.set Ar130 qq130 Sz130 Nn130 Hs130 Gf130 (by first | rfl | exact fits_nar_char _) W132 3 rfl (Nat.le_of_ble_eq_true rfl)⟩
        have N135 := Fr.snoc X132 N129 g108
        obtain ⟨kk136, cl136, Ar136, qq136, Sz136, Nn136, Hs136, Gf136⟩ := id f134
        have hin137 : ¬ ((4 : Int32) < 0 ∨ cl136.slots.size ≤ ((4 : Int32)).toNatClampNeg) := inb_of Sz136 ⟨by decide, by decide⟩
        obtain ⟨T138, h138, X138, e138, W138, st138⟩ := stC X132 hx hZ e132 Ar136 (j := (4 : Int32)) hin137 (g := (mkF m 129 #[iv p1_0] [(.int (115 : Int32)), (.int (4 : Int32)), (.ref b107), (.ref b107)])) rfl rfl (hb hby d1_129)
        have K139 : Keep h0 h138 [] := (K133).wr W138 (Or.inr bz109)
        have f140 : Av Z h138 b107 .char (5 : Int32) [(.int (116 : Int32)), (.int (121 : Int32)), (.int (112 : Int32)), (.int (101 : Int32)), (.int (115 : Int32))] (.int (0 : Int32)) := ⟨_, Arv.set Ar136 qq136 Sz136 Nn136 Hs136 Gf136 (by first | rfl | exact fits_nar_char _) W138 4 rfl (Nat.le_of_ble_eq_true rfl)⟩
        have N141 := Fr.snoc X138 N135 g108
        obtain ⟨fs, hr, hrun, hended, hW, hsame⟩ := X138.leave (v := some (.ref b107)) (fun h => by rw [Bd.returns] at h; cases h)
        refine ⟨_, _, pre106 _ ?_, hrun, hended, _, _, rfl, ?_, ⟨_, rfl⟩, hW, hsame.mono (by decide) (by decide)⟩
        · show Steps p.tables e below (s₁.setTop (mkF m 99 #[iv p1_0] [(.int (2 : Int32)), (.int p1_0)])) _
          refine XS.icmpNo X0.here hx rfl (hb hby d1_99) rfl (teq hc99_105).2 ?_
          show Steps p.tables e below (s₁.setTop (mkF m 102 #[iv p1_0] [])) _
          refine XS.iconst X0.here hx rfl (hb hby d1_102) ?_
          show Steps p.tables e below (s₁.setTop (mkF m 103 #[iv p1_0] [(.int (5 : Int32))])) _
          refine st107 _ ?_
          show Steps p.tables e below (T107.setTop (mkF m 105 #[iv p1_0] [(.ref b107)])) _
          refine XS.dup X107.here hx rfl (hb hby d1_105) rfl rfl ?_
          show Steps p.tables e below (T107.setTop (mkF m 106 #[iv p1_0] [(.ref b107), (.ref b107)])) _
          refine XS.iconst X107.here hx rfl (hb hby d1_106) ?_
          show Steps p.tables e below (T107.setTop (mkF m 107 #[iv p1_0] [(.int (0 : Int32)), (.ref b107), (.ref b107)])) _
          refine XS.bipush X107.here hx rfl (hb hby d1_107) ?_
          show Steps p.tables e below (T107.setTop (mkF m 109 #[iv p1_0] [(.int (116 : Int32)), (.int (0 : Int32)), (.ref b107), (.ref b107)])) _
          refine st114 _ ?_
          show Steps p.tables e below (T114.setTop (mkF m 110 #[iv p1_0] [(.ref b107)])) _
          refine XS.dup X114.here hx rfl (hb hby d1_110) rfl rfl ?_
          show Steps p.tables e below (T114.setTop (mkF m 111 #[iv p1_0] [(.ref b107), (.ref b107)])) _
          refine XS.iconst X114.here hx rfl (hb hby d1_111) ?_
          show Steps p.tables e below (T114.setTop (mkF m 112 #[iv p1_0] [(.int (1 : Int32)), (.ref b107), (.ref b107)])) _
          refine XS.bipush X114.here hx rfl (hb hby d1_112) ?_
          show Steps p.tables e below (T114.setTop (mkF m 114 #[iv p1_0] [(.int (121 : Int32)), (.int (1 : Int32)), (.ref b107), (.ref b107)])) _
          refine st120 _ ?_
          show Steps p.tables e below (T120.setTop (mkF m 115 #[iv p1_0] [(.ref b107)])) _
          refine XS.dup X120.here hx rfl (hb hby d1_115) rfl rfl ?_
          show Steps p.tables e below (T120.setTop (mkF m 116 #[iv p1_0] [(.ref b107), (.ref b107)])) _
          refine XS.iconst X120.here hx rfl (hb hby d1_116) ?_
          show Steps p.tables e below (T120.setTop (mkF m 117 #[iv p1_0] [(.int (2 : Int32)), (.ref b107), (.ref b107)])) _
          refine XS.bipush X120.here hx rfl (hb hby d1_117) ?_
          show Steps p.tables e below (T120.setTop (mkF m 119 #[iv p1_0] [(.int (112 : Int32)), (.int (2 : Int32)), (.ref b107), (.ref b107)])) _
          refine st126 _ ?_
          show Steps p.tables e below (T126.setTop (mkF m 120 #[iv p1_0] [(.ref b107)])) _
          refine XS.dup X126.here hx rfl (hb hby d1_120) rfl rfl ?_
          show Steps p.tables e below (T126.setTop (mkF m 121 #[iv p1_0] [(.ref b107), (.ref b107)])) _
          refine XS.iconst X126.here hx rfl (hb hby d1_121) ?_
          show Steps p.tables e below (T126.setTop (mkF m 122 #[iv p1_0] [(.int (3 : Int32)), (.ref b107), (.ref b107)])) _
          refine XS.bipush X126.here hx rfl (hb hby d1_122) ?_
          show Steps p.tables e below (T126.setTop (mkF m 124 #[iv p1_0] [(.int (101 : Int32)), (.int (3 : Int32)), (.ref b107), (.ref b107)])) _
          refine st132 _ ?_
          show Steps p.tables e below (T132.setTop (mkF m 125 #[iv p1_0] [(.ref b107)])) _
          refine XS.dup X132.here hx rfl (hb hby d1_125) rfl rfl ?_
          show Steps p.tables e below (T132.setTop (mkF m 126 #[iv p1_0] [(.ref b107), (.ref b107)])) _
          refine XS.iconst X132.here hx rfl (hb hby d1_126) ?_
          show Steps p.tables e below (T132.setTop (mkF m 127 #[iv p1_0] [(.int (4 : Int32)), (.ref b107), (.ref b107)])) _
          refine XS.bipush X132.here hx rfl (hb hby d1_127) ?_
          show Steps p.tables e below (T132.setTop (mkF m 129 #[iv p1_0] [(.int (115 : Int32)), (.int (4 : Int32)), (.ref b107), (.ref b107)])) _
          refine st138 _ ?_
          show Steps p.tables e below (T138.setTop (mkF m 130 #[iv p1_0] [(.ref b107)])) _
          exact retOut X138 hx Bd.returns rfl (Or.inr (Or.inr (Or.inr (Or.inr ⟨rfl, rfl, rfl⟩)))) (hb hby d1_130) hr
        · show Q_rm1 Z _ h0 n0 _ T138.heap _
          rw [e138]
          exact ⟨b107, rfl, N141, (K139), bz109, (by rw [show own_base p1_0 = [116, 121, 112, 101, 115] from by unfold own_base; rw [if_neg hc1_1, if_neg hc35_38, if_pos hc99_105]]; exact f140)⟩
      · skip
        obtain ⟨T142, h142, k142, X142, e142, E142, A142, st142⟩ := newP (aty := .char) X0 hx hZ wo7 e0 (g := (mkF m 132 #[iv p1_0] [(.int (5 : Int32))])) rfl (hb hby d1_132) rfl (by decide) (cap := 5) (by decide) (by decide) (by decide) (by decide)
        obtain ⟨b142, gg142⟩ : ∃ z, z = h0.size := ⟨_, rfl⟩
        rw [← gg142] at A142 st142
        have g143 : n0 ≤ b142 := Nat.le_trans Z0 (Nat.le_of_eq gg142.symm)
        have bz144 : h0.size ≤ b142 := Nat.le_trans (Keep.refl h0 []).1 (Nat.le_of_eq gg142.symm)
        have K146 : Keep h0 h142 [] := (Keep.refl h0 []).ext E142
        have f145 : Av Z h142 b142 .char (5 : Int32) [(.int (0 : Int32)), (.int (0 : Int32)), (.int (0 : Int32)), (.int (0 : Int32)), (.int (0 : Int32))] (.int (0 : Int32)) := ⟨_, (Arv.new A142 (by decide)).pad (pad_rep [] (.int (0 : Int32)) 5)⟩
        obtain ⟨kk147, cl147, Ar147, qq147, Sz147, Nn147, Hs147, Gf147⟩ := id f145
        have hin148 : ¬ ((0 : Int32) < 0 ∨ cl147.slots.size ≤ ((0 : Int32)).toNatClampNeg) := inb_of Sz147 ⟨by decide, by decide⟩
        obtain ⟨T149, h149, X149, e149, W149, st149⟩ := stC X142 hx hZ e142 Ar147 (j := (0 : Int32)) hin148 (g := (mkF m 138 #[iv p1_0] [(.int (108 : Int32)), (.int (0 : Int32)), (.ref b142), (.ref b142)])) rfl rfl (hb hby d1_138)
        have K150 : Keep h0 h149 [] := (K146).wr W149 (Or.inr bz144)
        have f151 : Av Z h149 b142 .char (5 : Int32) [(.int (108 : Int32)), (.int (0 : Int32)), (.int (0 : Int32)), (.int (0 : Int32)), (.int (0 : Int32))] (.int (0 : Int32)) := ⟨_, Arv.set Ar147 qq147 Sz147 Nn147 Hs147 Gf147 (by first | rfl | exact fits_nar_char _) W149 0 rfl (Nat.le_of_ble_eq_true rfl)⟩
        have N152 := Fr.snoc X149 N0 g143
        obtain ⟨kk153, cl153, Ar153, qq153, Sz153, Nn153, Hs153, Gf153⟩ := id f151
        have hin154 : ¬ ((1 : Int32) < 0 ∨ cl153.slots.size ≤ ((1 : Int32)).toNatClampNeg) := inb_of Sz153 ⟨by decide, by decide⟩
        obtain ⟨T155, h155, X155, e155, W155, st155⟩ := stC X149 hx hZ e149 Ar153 (j := (1 : Int32)) hin154 (g := (mkF m 143 #[iv p1_0] [(.int (105 : Int32)), (.int (1 : Int32)), (.ref b142), (.ref b142)])) rfl rfl (hb hby d1_143)
        have K156 : Keep h0 h155 [] := (K150).wr W155 (Or.inr bz144)
        have f157 : Av Z h155 b142 .char (5 : Int32) [(.int (108 : Int32)), (.int (105 : Int32)), (.int (0 : Int32)), (.int (0 : Int32)), (.int (0 : Int32))] (.int (0 : Int32)) := ⟨_, Arv.set Ar153 qq153 Sz153 Nn153 Hs153 Gf153 (by first | rfl | exact fits_nar_char _) W155 1 rfl (Nat.le_of_ble_eq_true rfl)⟩
        have N158 := Fr.snoc X155 N152 g143
        obtain ⟨kk159, cl159, Ar159, qq159, Sz159, Nn159, Hs159, Gf159⟩ := id f157
        have hin160 : ¬ ((2 : Int32) < 0 ∨ cl159.slots.size ≤ ((2 : Int32)).toNatClampNeg) := inb_of Sz159 ⟨by decide, by decide⟩
        obtain ⟨T161, h161, X161, e161, W161, st161⟩ := stC X155 hx hZ e155 Ar159 (j := (2 : Int32)) hin160 (g := (mkF m 148 #[iv p1_0] [(.int (110 : Int32)), (.int (2 : Int32)), (.ref b142), (.ref b142)])) rfl rfl (hb hby d1_148)
        have K162 : Keep h0 h161 [] := (K156).wr W161 (Or.inr bz144)
        have f163 : Av Z h161 b142 .char (5 : Int32) [(.int (108 : Int32)), (.int (105 : Int32)), (.int (110 : Int32)), (.int (0 : Int32)), (.int (0 : Int32))] (.int (0 : Int32)) := ⟨_, Arv.set Ar159 qq159 Sz159 Nn159 Hs159 Gf159 (by first | rfl | exact fits_nar_char _) W161 2 rfl (Nat.le_of_ble_eq_true rfl)⟩
        have N164 := Fr.snoc X161 N158 g143
        obtain ⟨kk165, cl165, Ar165, qq165, Sz165, Nn165, Hs165, Gf165⟩ := id f163
        have hin166 : ¬ ((3 : Int32) < 0 ∨ cl165.slots.size ≤ ((3 : Int32)).toNatClampNeg) := inb_of Sz165 ⟨by decide, by decide⟩
        obtain ⟨T167, h167, X167, e167, W167, st167⟩ := stC X161 hx hZ e161 Ar165 (j := (3 : Int32)) hin166 (g := (mkF m 153 #[iv p1_0] [(.int (107 : Int32)), (.int (3 : Int32)), (.ref b142), (.ref b142)])) rfl rfl (hb hby d1_153)
        have K168 : Keep h0 h167 [] := (K162).wr W167 (Or.inr bz144)
        have f169 : Av Z h167 b142 .char (5 : Int32) [(.int (108 : Int32)), (.int (105 : Int32)), (.int (110 : Int32)), (.int (107 : Int32)), (.int (0 : Int32))] (.int (0 : Int32)) := ⟨_, Arv.set Ar165 qq165 Sz165 Nn165 Hs165 Gf165 (by first | rfl | exact fits_nar_char _) W167 3 rfl (Nat.le_of_ble_eq_true rfl)⟩
        have N170 := Fr.snoc X167 N164 g143
        obtain ⟨kk171, cl171, Ar171, qq171, Sz171, Nn171, Hs171, Gf171⟩ := id f169
        have hin172 : ¬ ((4 : Int32) < 0 ∨ cl171.slots.size ≤ ((4 : Int32)).toNatClampNeg) := inb_of Sz171 ⟨by decide, by decide⟩
        obtain ⟨T173, h173, X173, e173, W173, st173⟩ := stC X167 hx hZ e167 Ar171 (j := (4 : Int32)) hin172 (g := (mkF m 158 #[iv p1_0] [(.int (115 : Int32)), (.int (4 : Int32)), (.ref b142), (.ref b142)])) rfl rfl (hb hby d1_158)
        have K174 : Keep h0 h173 [] := (K168).wr W173 (Or.inr bz144)
        have f175 : Av Z h173 b142 .char (5 : Int32) [(.int (108 : Int32)), (.int (105 : Int32)), (.int (110 : Int32)), (.int (107 : Int32)), (.int (115 : Int32))] (.int (0 : Int32)) := ⟨_, Arv.set Ar171 qq171 Sz171 Nn171 Hs171 Gf171 (by first | rfl | exact fits_nar_char _) W173 4 rfl (Nat.le_of_ble_eq_true rfl)⟩
        have N176 := Fr.snoc X173 N170 g143
        obtain ⟨fs, hr, hrun, hended, hW, hsame⟩ := X173.leave (v := some (.ref b142)) (fun h => by rw [Bd.returns] at h; cases h)
        refine ⟨_, _, pre106 _ ?_, hrun, hended, _, _, rfl, ?_, ⟨_, rfl⟩, hW, hsame.mono (by decide) (by decide)⟩
        · show Steps p.tables e below (s₁.setTop (mkF m 99 #[iv p1_0] [(.int (2 : Int32)), (.int p1_0)])) _
          refine XS.icmpYes X0.here hx rfl (pc0 := 99) (pc' := 131) rfl (hb hby d1_99) rfl (feq hc99_105).2 (by decide) (by decide) ?_
          show Steps p.tables e below (s₁.setTop (mkF m 131 #[iv p1_0] [])) _
          refine XS.iconst X0.here hx rfl (hb hby d1_131) ?_
          show Steps p.tables e below (s₁.setTop (mkF m 132 #[iv p1_0] [(.int (5 : Int32))])) _
          refine st142 _ ?_
          show Steps p.tables e below (T142.setTop (mkF m 134 #[iv p1_0] [(.ref b142)])) _
          refine XS.dup X142.here hx rfl (hb hby d1_134) rfl rfl ?_
          show Steps p.tables e below (T142.setTop (mkF m 135 #[iv p1_0] [(.ref b142), (.ref b142)])) _
          refine XS.iconst X142.here hx rfl (hb hby d1_135) ?_
          show Steps p.tables e below (T142.setTop (mkF m 136 #[iv p1_0] [(.int (0 : Int32)), (.ref b142), (.ref b142)])) _
          refine XS.bipush X142.here hx rfl (hb hby d1_136) ?_
          show Steps p.tables e below (T142.setTop (mkF m 138 #[iv p1_0] [(.int (108 : Int32)), (.int (0 : Int32)), (.ref b142), (.ref b142)])) _
          refine st149 _ ?_
          show Steps p.tables e below (T149.setTop (mkF m 139 #[iv p1_0] [(.ref b142)])) _
          refine XS.dup X149.here hx rfl (hb hby d1_139) rfl rfl ?_
          show Steps p.tables e below (T149.setTop (mkF m 140 #[iv p1_0] [(.ref b142), (.ref b142)])) _
          refine XS.iconst X149.here hx rfl (hb hby d1_140) ?_
          show Steps p.tables e below (T149.setTop (mkF m 141 #[iv p1_0] [(.int (1 : Int32)), (.ref b142), (.ref b142)])) _
          refine XS.bipush X149.here hx rfl (hb hby d1_141) ?_
          show Steps p.tables e below (T149.setTop (mkF m 143 #[iv p1_0] [(.int (105 : Int32)), (.int (1 : Int32)), (.ref b142), (.ref b142)])) _
          refine st155 _ ?_
          show Steps p.tables e below (T155.setTop (mkF m 144 #[iv p1_0] [(.ref b142)])) _
          refine XS.dup X155.here hx rfl (hb hby d1_144) rfl rfl ?_
          show Steps p.tables e below (T155.setTop (mkF m 145 #[iv p1_0] [(.ref b142), (.ref b142)])) _
          refine XS.iconst X155.here hx rfl (hb hby d1_145) ?_
          show Steps p.tables e below (T155.setTop (mkF m 146 #[iv p1_0] [(.int (2 : Int32)), (.ref b142), (.ref b142)])) _
          refine XS.bipush X155.here hx rfl (hb hby d1_146) ?_
          show Steps p.tables e below (T155.setTop (mkF m 148 #[iv p1_0] [(.int (110 : Int32)), (.int (2 : Int32)), (.ref b142), (.ref b142)])) _
          refine st161 _ ?_
          show Steps p.tables e below (T161.setTop (mkF m 149 #[iv p1_0] [(.ref b142)])) _
          refine XS.dup X161.here hx rfl (hb hby d1_149) rfl rfl ?_
          show Steps p.tables e below (T161.setTop (mkF m 150 #[iv p1_0] [(.ref b142), (.ref b142)])) _
          refine XS.iconst X161.here hx rfl (hb hby d1_150) ?_
          show Steps p.tables e below (T161.setTop (mkF m 151 #[iv p1_0] [(.int (3 : Int32)), (.ref b142), (.ref b142)])) _
          refine XS.bipush X161.here hx rfl (hb hby d1_151) ?_
          show Steps p.tables e below (T161.setTop (mkF m 153 #[iv p1_0] [(.int (107 : Int32)), (.int (3 : Int32)), (.ref b142), (.ref b142)])) _
          refine st167 _ ?_
          show Steps p.tables e below (T167.setTop (mkF m 154 #[iv p1_0] [(.ref b142)])) _
          refine XS.dup X167.here hx rfl (hb hby d1_154) rfl rfl ?_
          show Steps p.tables e below (T167.setTop (mkF m 155 #[iv p1_0] [(.ref b142), (.ref b142)])) _
          refine XS.iconst X167.here hx rfl (hb hby d1_155) ?_
          show Steps p.tables e below (T167.setTop (mkF m 156 #[iv p1_0] [(.int (4 : Int32)), (.ref b142), (.ref b142)])) _
          refine XS.bipush X167.here hx rfl (hb hby d1_156) ?_
          show Steps p.tables e below (T167.setTop (mkF m 158 #[iv p1_0] [(.int (115 : Int32)), (.int (4 : Int32)), (.ref b142), (.ref b142)])) _
          refine st173 _ ?_
          show Steps p.tables e below (T173.setTop (mkF m 159 #[iv p1_0] [(.ref b142)])) _
          exact retOut X173 hx Bd.returns rfl (Or.inr (Or.inr (Or.inr (Or.inr ⟨rfl, rfl, rfl⟩)))) (hb hby d1_159) hr
        · show Q_rm1 Z _ h0 n0 _ T173.heap _
          rw [e173]
          exact ⟨b142, rfl, N176, (K174), bz144, (by rw [show own_base p1_0 = [108, 105, 110, 107, 115] from by unfold own_base; rw [if_neg hc1_1, if_neg hc35_38, if_neg hc99_105]]; exact f175)⟩
theorem d18_0 : decode method_5_code 0 = .ok (.iload_n 0, 1) := by decide +kernel
theorem d18_1 : decode method_5_code 1 = .ok (.ifCond .ne 27, 3) := by decide +kernel
theorem d18_4 : decode method_5_code 4 = .ok (.iconst 4, 1) := by decide +kernel
theorem d18_5 : decode method_5_code 5 = .ok (.newarray .char, 2) := by decide +kernel
theorem d18_7 : decode method_5_code 7 = .ok (.dup, 1) := by decide +kernel
theorem d18_8 : decode method_5_code 8 = .ok (.iconst 0, 1) := by decide +kernel
theorem d18_9 : decode method_5_code 9 = .ok (.bipush 110, 2) := by decide +kernel
theorem d18_11 : decode method_5_code 11 = .ok (.castore, 1) := by decide +kernel
theorem d18_12 : decode method_5_code 12 = .ok (.dup, 1) := by decide +kernel
theorem d18_13 : decode method_5_code 13 = .ok (.iconst 1, 1) := by decide +kernel
theorem d18_14 : decode method_5_code 14 = .ok (.bipush 97, 2) := by decide +kernel
theorem d18_16 : decode method_5_code 16 = .ok (.castore, 1) := by decide +kernel
theorem d18_17 : decode method_5_code 17 = .ok (.dup, 1) := by decide +kernel
theorem d18_18 : decode method_5_code 18 = .ok (.iconst 2, 1) := by decide +kernel
theorem d18_19 : decode method_5_code 19 = .ok (.bipush 109, 2) := by decide +kernel
theorem d18_21 : decode method_5_code 21 = .ok (.castore, 1) := by decide +kernel
theorem d18_22 : decode method_5_code 22 = .ok (.dup, 1) := by decide +kernel
theorem d18_23 : decode method_5_code 23 = .ok (.iconst 3, 1) := by decide +kernel
theorem d18_24 : decode method_5_code 24 = .ok (.bipush 101, 2) := by decide +kernel
theorem d18_26 : decode method_5_code 26 = .ok (.castore, 1) := by decide +kernel
theorem d18_27 : decode method_5_code 27 = .ok (.areturn, 1) := by decide +kernel
theorem d18_28 : decode method_5_code 28 = .ok (.iload_n 0, 1) := by decide +kernel
theorem d18_29 : decode method_5_code 29 = .ok (.iconst 1, 1) := by decide +kernel
theorem d18_30 : decode method_5_code 30 = .ok (.if_icmp .ne 56, 3) := by decide +kernel
theorem d18_33 : decode method_5_code 33 = .ok (.bipush 9, 2) := by decide +kernel
theorem d18_35 : decode method_5_code 35 = .ok (.newarray .char, 2) := by decide +kernel
theorem d18_37 : decode method_5_code 37 = .ok (.dup, 1) := by decide +kernel
theorem d18_38 : decode method_5_code 38 = .ok (.iconst 0, 1) := by decide +kernel
theorem d18_39 : decode method_5_code 39 = .ok (.bipush 97, 2) := by decide +kernel
theorem d18_41 : decode method_5_code 41 = .ok (.castore, 1) := by decide +kernel
theorem d18_42 : decode method_5_code 42 = .ok (.dup, 1) := by decide +kernel
theorem d18_43 : decode method_5_code 43 = .ok (.iconst 1, 1) := by decide +kernel
theorem d18_44 : decode method_5_code 44 = .ok (.bipush 116, 2) := by decide +kernel
theorem d18_46 : decode method_5_code 46 = .ok (.castore, 1) := by decide +kernel
theorem d18_47 : decode method_5_code 47 = .ok (.dup, 1) := by decide +kernel
theorem d18_48 : decode method_5_code 48 = .ok (.iconst 2, 1) := by decide +kernel
theorem d18_49 : decode method_5_code 49 = .ok (.bipush 116, 2) := by decide +kernel
theorem d18_51 : decode method_5_code 51 = .ok (.castore, 1) := by decide +kernel
theorem d18_52 : decode method_5_code 52 = .ok (.dup, 1) := by decide +kernel
theorem d18_53 : decode method_5_code 53 = .ok (.iconst 3, 1) := by decide +kernel
theorem d18_54 : decode method_5_code 54 = .ok (.bipush 114, 2) := by decide +kernel
theorem d18_56 : decode method_5_code 56 = .ok (.castore, 1) := by decide +kernel
theorem d18_57 : decode method_5_code 57 = .ok (.dup, 1) := by decide +kernel
theorem d18_58 : decode method_5_code 58 = .ok (.iconst 4, 1) := by decide +kernel
theorem d18_59 : decode method_5_code 59 = .ok (.bipush 105, 2) := by decide +kernel
theorem d18_61 : decode method_5_code 61 = .ok (.castore, 1) := by decide +kernel
theorem d18_62 : decode method_5_code 62 = .ok (.dup, 1) := by decide +kernel
theorem d18_63 : decode method_5_code 63 = .ok (.iconst 5, 1) := by decide +kernel
theorem d18_64 : decode method_5_code 64 = .ok (.bipush 98, 2) := by decide +kernel
theorem d18_66 : decode method_5_code 66 = .ok (.castore, 1) := by decide +kernel
theorem d18_67 : decode method_5_code 67 = .ok (.dup, 1) := by decide +kernel
theorem d18_68 : decode method_5_code 68 = .ok (.bipush 6, 2) := by decide +kernel
theorem d18_70 : decode method_5_code 70 = .ok (.bipush 117, 2) := by decide +kernel
theorem d18_72 : decode method_5_code 72 = .ok (.castore, 1) := by decide +kernel
theorem d18_73 : decode method_5_code 73 = .ok (.dup, 1) := by decide +kernel
theorem d18_74 : decode method_5_code 74 = .ok (.bipush 7, 2) := by decide +kernel
theorem d18_76 : decode method_5_code 76 = .ok (.bipush 116, 2) := by decide +kernel
theorem d18_78 : decode method_5_code 78 = .ok (.castore, 1) := by decide +kernel
theorem d18_79 : decode method_5_code 79 = .ok (.dup, 1) := by decide +kernel
theorem d18_80 : decode method_5_code 80 = .ok (.bipush 8, 2) := by decide +kernel
theorem d18_82 : decode method_5_code 82 = .ok (.bipush 101, 2) := by decide +kernel
theorem d18_84 : decode method_5_code 84 = .ok (.castore, 1) := by decide +kernel
theorem d18_85 : decode method_5_code 85 = .ok (.areturn, 1) := by decide +kernel
theorem d18_86 : decode method_5_code 86 = .ok (.iload_n 0, 1) := by decide +kernel
theorem d18_87 : decode method_5_code 87 = .ok (.iconst 2, 1) := by decide +kernel
theorem d18_88 : decode method_5_code 88 = .ok (.if_icmp .ne 27, 3) := by decide +kernel
theorem d18_91 : decode method_5_code 91 = .ok (.iconst 4, 1) := by decide +kernel
theorem d18_92 : decode method_5_code 92 = .ok (.newarray .char, 2) := by decide +kernel
theorem d18_94 : decode method_5_code 94 = .ok (.dup, 1) := by decide +kernel
theorem d18_95 : decode method_5_code 95 = .ok (.iconst 0, 1) := by decide +kernel
theorem d18_96 : decode method_5_code 96 = .ok (.bipush 116, 2) := by decide +kernel
theorem d18_98 : decode method_5_code 98 = .ok (.castore, 1) := by decide +kernel
theorem d18_99 : decode method_5_code 99 = .ok (.dup, 1) := by decide +kernel
theorem d18_100 : decode method_5_code 100 = .ok (.iconst 1, 1) := by decide +kernel
theorem d18_101 : decode method_5_code 101 = .ok (.bipush 121, 2) := by decide +kernel
theorem d18_103 : decode method_5_code 103 = .ok (.castore, 1) := by decide +kernel
theorem d18_104 : decode method_5_code 104 = .ok (.dup, 1) := by decide +kernel
theorem d18_105 : decode method_5_code 105 = .ok (.iconst 2, 1) := by decide +kernel
theorem d18_106 : decode method_5_code 106 = .ok (.bipush 112, 2) := by decide +kernel
theorem d18_108 : decode method_5_code 108 = .ok (.castore, 1) := by decide +kernel
theorem d18_109 : decode method_5_code 109 = .ok (.dup, 1) := by decide +kernel
theorem d18_110 : decode method_5_code 110 = .ok (.iconst 3, 1) := by decide +kernel
theorem d18_111 : decode method_5_code 111 = .ok (.bipush 101, 2) := by decide +kernel
theorem d18_113 : decode method_5_code 113 = .ok (.castore, 1) := by decide +kernel
theorem d18_114 : decode method_5_code 114 = .ok (.areturn, 1) := by decide +kernel
theorem d18_115 : decode method_5_code 115 = .ok (.iconst 4, 1) := by decide +kernel
theorem d18_116 : decode method_5_code 116 = .ok (.newarray .char, 2) := by decide +kernel
theorem d18_118 : decode method_5_code 118 = .ok (.dup, 1) := by decide +kernel
theorem d18_119 : decode method_5_code 119 = .ok (.iconst 0, 1) := by decide +kernel
theorem d18_120 : decode method_5_code 120 = .ok (.bipush 108, 2) := by decide +kernel
theorem d18_122 : decode method_5_code 122 = .ok (.castore, 1) := by decide +kernel
theorem d18_123 : decode method_5_code 123 = .ok (.dup, 1) := by decide +kernel
theorem d18_124 : decode method_5_code 124 = .ok (.iconst 1, 1) := by decide +kernel
theorem d18_125 : decode method_5_code 125 = .ok (.bipush 105, 2) := by decide +kernel
theorem d18_127 : decode method_5_code 127 = .ok (.castore, 1) := by decide +kernel
theorem d18_128 : decode method_5_code 128 = .ok (.dup, 1) := by decide +kernel
theorem d18_129 : decode method_5_code 129 = .ok (.iconst 2, 1) := by decide +kernel
theorem d18_130 : decode method_5_code 130 = .ok (.bipush 110, 2) := by decide +kernel
theorem d18_132 : decode method_5_code 132 = .ok (.castore, 1) := by decide +kernel
theorem d18_133 : decode method_5_code 133 = .ok (.dup, 1) := by decide +kernel
theorem d18_134 : decode method_5_code 134 = .ok (.iconst 3, 1) := by decide +kernel
theorem d18_135 : decode method_5_code 135 = .ok (.bipush 107, 2) := by decide +kernel
theorem d18_137 : decode method_5_code 137 = .ok (.castore, 1) := by decide +kernel
theorem d18_138 : decode method_5_code 138 = .ok (.areturn, 1) := by decide +kernel
theorem ef_rm18 (m : MethodId) (x0 : Int32) : entryFrame m #[(.int x0)] 1 = mkF m 0 #[iv x0] [] := by first | (simp [entryFrame, mkF, argsToLocals, Value.category]; done) | rfl
def Q_rm18 (Z : State) (p18_0 : Int32) (h0 : Heap) (n0 : Nat) (v : Option Value) (h : Heap) (L : List Loc) : Prop := ∃ (r : Addr), v = some (.ref r) ∧ Fr n0 L ∧ Keep h0 h [] ∧ (h0.size ≤ r) ∧ (Av Z h r .char (Int32.ofNat (own_short p18_0).length) (own_cv (own_short p18_0)) (.int (0 : Int32)))
set_option maxRecDepth 65536 in
set_option maxHeartbeats 40000000 in
theorem rm18 (l : Launch) (Z : State) (a0 : Array Value) (hw : ∀ d ∈ tables_1, d.before a0 Z = true) (ws : List Jvm.Cond) (p18_0 : Int32) (h0 : Heap) (n0 : Nat) (Z0 : n0 ≤ h0.size) :
    MetFree l (⟨"com/example/iskati/iskati/entity/EntityFieldNamedPinLaw", "shortOf", "(I)[C"⟩ : MethodName) (head1 (Jvm.Cond.code (⟨"com/example/iskati/iskati/entity/EntityFieldNamedPinLaw", "shortOf", "(I)[C"⟩ : MethodName) method_5_code 1 (some (.array .char)) :: ws) ({ frames := 0, cells := 1, slots := 9, locals := 0 } : Room)) (fun a U => a = #[(.int p18_0)] ∧ Z.Warmed39 U.vm ∧ U.heap = h0) (fun _ _ _ _ _ => True) (fun _ U o U' => ∃ v L, o = .returned v ∧ Q_rm18 Z p18_0 h0 n0 v U'.heap L ∧ FrameEnd U o U' L ({ frames := 0, cells := 1, slots := 9, locals := 0 } : Room).cells ({ frames := 0, cells := 1, slots := 9, locals := 0 } : Room).slots) := by
  refine MetFree.of_bodySF (plainFor_of_name pn_com_example_iskati_iskati_entity_EntityFieldNamedPinLaw) hisR ?_
  intro p e s m args below meth c s₁ Bd hml0 hP hK
  obtain ⟨rfl, hZ, hh⟩ := hP
  have hx := Bd.exec
  have hby := Bd.bytes
  have hml : c.maxLocals = 1 := hml0
  have hown : s.vm.findClass "com/example/iskati/iskati/entity/EntityFieldNamedPinLaw" = some m.cls := findClass_of_methodNamed Bd.named
  have hnm := (name_of_methodNamed Bd.named Bd.method).1
  have X0 : Stand p l e ({ frames := 0, cells := 1, slots := 9, locals := 0 } : Room) s m #[(.int p18_0)] below meth c s₁ [] 0 0 := Stand.of_body Bd
  have e0 : s₁.heap = h0 := by rw [← hh, Bd.state]; rfl
  have N0 := Fr.nil n0
  have pre0 : ∀ t, Steps p.tables e below (s₁.setTop (mkF m 0 #[iv p18_0] [])) t → Steps p.tables e below (s₁.setTop (entryFrame m #[(.int p18_0)] 1)) t := fun t k => castTop (ef_rm18 m p18_0) k
  have wo7 := hw _ (List.mem_of_getElem? (i := 7) rfl)
  have pre2 : ∀ t, Steps p.tables e below (s₁.setTop (mkF m 1 #[iv p18_0] [(.int p18_0)])) t → Steps p.tables e below (s₁.setTop (entryFrame m #[(.int p18_0)] 1)) t := by
    intro t_ k_
    refine pre0 _ ?_
    show Steps p.tables e below (s₁.setTop (mkF m 0 #[iv p18_0] [])) _
    refine XS.iloadN X0.here hx rfl (hb hby d18_0) rfl ?_
    exact k_
  by_cases hc1_1 : p18_0 = (0 : Int32)
  · skip
    obtain ⟨T3, h3, k3, X3, e3, E3, A3, st3⟩ := newP (aty := .char) X0 hx hZ wo7 e0 (g := (mkF m 5 #[iv p18_0] [(.int (4 : Int32))])) rfl (hb hby d18_5) rfl (by decide) (cap := 4) (by decide) (by decide) (by decide) (by decide)
    obtain ⟨b3, gg3⟩ : ∃ z, z = h0.size := ⟨_, rfl⟩
    rw [← gg3] at A3 st3
    have g4 : n0 ≤ b3 := Nat.le_trans Z0 (Nat.le_of_eq gg3.symm)
    have bz5 : h0.size ≤ b3 := Nat.le_trans (Keep.refl h0 []).1 (Nat.le_of_eq gg3.symm)
    have K7 : Keep h0 h3 [] := (Keep.refl h0 []).ext E3
    have f6 : Av Z h3 b3 .char (4 : Int32) [(.int (0 : Int32)), (.int (0 : Int32)), (.int (0 : Int32)), (.int (0 : Int32))] (.int (0 : Int32)) := ⟨_, (Arv.new A3 (by decide)).pad (pad_rep [] (.int (0 : Int32)) 4)⟩
    obtain ⟨kk8, cl8, Ar8, qq8, Sz8, Nn8, Hs8, Gf8⟩ := id f6
    have hin9 : ¬ ((0 : Int32) < 0 ∨ cl8.slots.size ≤ ((0 : Int32)).toNatClampNeg) := inb_of Sz8 ⟨by decide, by decide⟩
    obtain ⟨T10, h10, X10, e10, W10, st10⟩ := stC X3 hx hZ e3 Ar8 (j := (0 : Int32)) hin9 (g := (mkF m 11 #[iv p18_0] [(.int (110 : Int32)), (.int (0 : Int32)), (.ref b3), (.ref b3)])) rfl rfl (hb hby d18_11)
    have K11 : Keep h0 h10 [] := (K7).wr W10 (Or.inr bz5)
    have f12 : Av Z h10 b3 .char (4 : Int32) [(.int (110 : Int32)), (.int (0 : Int32)), (.int (0 : Int32)), (.int (0 : Int32))] (.int (0 : Int32)) := ⟨_, Arv.set Ar8 qq8 Sz8 Nn8 Hs8 Gf8 (by first | rfl | exact fits_nar_char _) W10 0 rfl (Nat.le_of_ble_eq_true rfl)⟩
    have N13 := Fr.snoc X10 N0 g4
    obtain ⟨kk14, cl14, Ar14, qq14, Sz14, Nn14, Hs14, Gf14⟩ := id f12
    have hin15 : ¬ ((1 : Int32) < 0 ∨ cl14.slots.size ≤ ((1 : Int32)).toNatClampNeg) := inb_of Sz14 ⟨by decide, by decide⟩
    obtain ⟨T16, h16, X16, e16, W16, st16⟩ := stC X10 hx hZ e10 Ar14 (j := (1 : Int32)) hin15 (g := (mkF m 16 #[iv p18_0] [(.int (97 : Int32)), (.int (1 : Int32)), (.ref b3), (.ref b3)])) rfl rfl (hb hby d18_16)
    have K17 : Keep h0 h16 [] := (K11).wr W16 (Or.inr bz5)
    have f18 : Av Z h16 b3 .char (4 : Int32) [(.int (110 : Int32)), (.int (97 : Int32)), (.int (0 : Int32)), (.int (0 : Int32))] (.int (0 : Int32)) := ⟨_, Arv.set Ar14 qq14 Sz14 Nn14 Hs14 Gf14 (by first | rfl | exact fits_nar_char _) W16 1 rfl (Nat.le_of_ble_eq_true rfl)⟩
    have N19 := Fr.snoc X16 N13 g4
    obtain ⟨kk20, cl20, Ar20, qq20, Sz20, Nn20, Hs20, Gf20⟩ := id f18
    have hin21 : ¬ ((2 : Int32) < 0 ∨ cl20.slots.size ≤ ((2 : Int32)).toNatClampNeg) := inb_of Sz20 ⟨by decide, by decide⟩
    obtain ⟨T22, h22, X22, e22, W22, st22⟩ := stC X16 hx hZ e16 Ar20 (j := (2 : Int32)) hin21 (g := (mkF m 21 #[iv p18_0] [(.int (109 : Int32)), (.int (2 : Int32)), (.ref b3), (.ref b3)])) rfl rfl (hb hby d18_21)
    have K23 : Keep h0 h22 [] := (K17).wr W22 (Or.inr bz5)
    have f24 : Av Z h22 b3 .char (4 : Int32) [(.int (110 : Int32)), (.int (97 : Int32)), (.int (109 : Int32)), (.int (0 : Int32))] (.int (0 : Int32)) := ⟨_, Arv.set Ar20 qq20 Sz20 Nn20 Hs20 Gf20 (by first | rfl | exact fits_nar_char _) W22 2 rfl (Nat.le_of_ble_eq_true rfl)⟩
    have N25 := Fr.snoc X22 N19 g4
    obtain ⟨kk26, cl26, Ar26, qq26, Sz26, Nn26, Hs26, Gf26⟩ := id f24
    have hin27 : ¬ ((3 : Int32) < 0 ∨ cl26.slots.size ≤ ((3 : Int32)).toNatClampNeg) := inb_of Sz26 ⟨by decide, by decide⟩
    obtain ⟨T28, h28, X28, e28, W28, st28⟩ := stC X22 hx hZ e22 Ar26 (j := (3 : Int32)) hin27 (g := (mkF m 26 #[iv p18_0] [(.int (101 : Int32)), (.int (3 : Int32)), (.ref b3), (.ref b3)])) rfl rfl (hb hby d18_26)
    have K29 : Keep h0 h28 [] := (K23).wr W28 (Or.inr bz5)
    have f30 : Av Z h28 b3 .char (4 : Int32) [(.int (110 : Int32)), (.int (97 : Int32)), (.int (109 : Int32)), (.int (101 : Int32))] (.int (0 : Int32)) := ⟨_, Arv.set Ar26 qq26 Sz26 Nn26 Hs26 Gf26 (by first | rfl | exact fits_nar_char _) W28 3 rfl (Nat.le_of_ble_eq_true rfl)⟩
    have N31 := Fr.snoc X28 N25 g4
    obtain ⟨fs, hr, hrun, hended, hW, hsame⟩ := X28.leave (v := some (.ref b3)) (fun h => by rw [Bd.returns] at h; cases h)
    refine ⟨_, _, pre2 _ ?_, hrun, hended, _, _, rfl, ?_, ⟨_, rfl⟩, hW, hsame.mono (by decide) (by decide)⟩
    · show Steps p.tables e below (s₁.setTop (mkF m 1 #[iv p18_0] [(.int p18_0)])) _
      refine XS.ifNo X0.here hx rfl (hb hby d18_1) rfl ((if0 _ _).trans (teq hc1_1).2) ?_
      show Steps p.tables e below (s₁.setTop (mkF m 4 #[iv p18_0] [])) _
      refine XS.iconst X0.here hx rfl (hb hby d18_4) ?_
      show Steps p.tables e below (s₁.setTop (mkF m 5 #[iv p18_0] [(.int (4 : Int32))])) _
      refine st3 _ ?_
      show Steps p.tables e below (T3.setTop (mkF m 7 #[iv p18_0] [(.ref b3)])) _
      refine XS.dup X3.here hx rfl (hb hby d18_7) rfl rfl ?_
      show Steps p.tables e below (T3.setTop (mkF m 8 #[iv p18_0] [(.ref b3), (.ref b3)])) _
      refine XS.iconst X3.here hx rfl (hb hby d18_8) ?_
      show Steps p.tables e below (T3.setTop (mkF m 9 #[iv p18_0] [(.int (0 : Int32)), (.ref b3), (.ref b3)])) _
      refine XS.bipush X3.here hx rfl (hb hby d18_9) ?_
      show Steps p.tables e below (T3.setTop (mkF m 11 #[iv p18_0] [(.int (110 : Int32)), (.int (0 : Int32)), (.ref b3), (.ref b3)])) _
      refine st10 _ ?_
      show Steps p.tables e below (T10.setTop (mkF m 12 #[iv p18_0] [(.ref b3)])) _
      refine XS.dup X10.here hx rfl (hb hby d18_12) rfl rfl ?_
      show Steps p.tables e below (T10.setTop (mkF m 13 #[iv p18_0] [(.ref b3), (.ref b3)])) _
      refine XS.iconst X10.here hx rfl (hb hby d18_13) ?_
      show Steps p.tables e below (T10.setTop (mkF m 14 #[iv p18_0] [(.int (1 : Int32)), (.ref b3), (.ref b3)])) _
      refine XS.bipush X10.here hx rfl (hb hby d18_14) ?_
      show Steps p.tables e below (T10.setTop (mkF m 16 #[iv p18_0] [(.int (97 : Int32)), (.int (1 : Int32)), (.ref b3), (.ref b3)])) _
      refine st16 _ ?_
      show Steps p.tables e below (T16.setTop (mkF m 17 #[iv p18_0] [(.ref b3)])) _
      refine XS.dup X16.here hx rfl (hb hby d18_17) rfl rfl ?_
      show Steps p.tables e below (T16.setTop (mkF m 18 #[iv p18_0] [(.ref b3), (.ref b3)])) _
      refine XS.iconst X16.here hx rfl (hb hby d18_18) ?_
      show Steps p.tables e below (T16.setTop (mkF m 19 #[iv p18_0] [(.int (2 : Int32)), (.ref b3), (.ref b3)])) _
      refine XS.bipush X16.here hx rfl (hb hby d18_19) ?_
      show Steps p.tables e below (T16.setTop (mkF m 21 #[iv p18_0] [(.int (109 : Int32)), (.int (2 : Int32)), (.ref b3), (.ref b3)])) _
      refine st22 _ ?_
      show Steps p.tables e below (T22.setTop (mkF m 22 #[iv p18_0] [(.ref b3)])) _
      refine XS.dup X22.here hx rfl (hb hby d18_22) rfl rfl ?_
      show Steps p.tables e below (T22.setTop (mkF m 23 #[iv p18_0] [(.ref b3), (.ref b3)])) _
      refine XS.iconst X22.here hx rfl (hb hby d18_23) ?_
      show Steps p.tables e below (T22.setTop (mkF m 24 #[iv p18_0] [(.int (3 : Int32)), (.ref b3), (.ref b3)])) _
      refine XS.bipush X22.here hx rfl (hb hby d18_24) ?_
      show Steps p.tables e below (T22.setTop (mkF m 26 #[iv p18_0] [(.int (101 : Int32)), (.int (3 : Int32)), (.ref b3), (.ref b3)])) _
      refine st28 _ ?_
      show Steps p.tables e below (T28.setTop (mkF m 27 #[iv p18_0] [(.ref b3)])) _
      exact retOut X28 hx Bd.returns rfl (Or.inr (Or.inr (Or.inr (Or.inr ⟨rfl, rfl, rfl⟩)))) (hb hby d18_27) hr
    · show Q_rm18 Z _ h0 n0 _ T28.heap _
      rw [e28]
      exact ⟨b3, rfl, N31, (K29), bz5, (by rw [show own_short p18_0 = [110, 97, 109, 101] from by unfold own_short; rw [if_pos hc1_1]]; exact f30)⟩
  · skip
    have pre33 : ∀ t, Steps p.tables e below (s₁.setTop (mkF m 30 #[iv p18_0] [(.int (1 : Int32)), (.int p18_0)])) t → Steps p.tables e below (s₁.setTop (entryFrame m #[(.int p18_0)] 1)) t := by
      intro t_ k_
      refine pre2 _ ?_
      show Steps p.tables e below (s₁.setTop (mkF m 1 #[iv p18_0] [(.int p18_0)])) _
      refine XS.ifYes X0.here hx rfl (pc0 := 1) (pc' := 28) rfl (hb hby d18_1) rfl ((if0 _ _).trans (feq hc1_1).2) (by decide) (by decide) ?_
      show Steps p.tables e below (s₁.setTop (mkF m 28 #[iv p18_0] [])) _
      refine XS.iloadN X0.here hx rfl (hb hby d18_28) rfl ?_
      show Steps p.tables e below (s₁.setTop (mkF m 29 #[iv p18_0] [(.int p18_0)])) _
      refine XS.iconst X0.here hx rfl (hb hby d18_29) ?_
      exact k_
    by_cases hc30_32 : p18_0 = (1 : Int32)
    · skip
      obtain ⟨T34, h34, k34, X34, e34, E34, A34, st34⟩ := newP (aty := .char) X0 hx hZ wo7 e0 (g := (mkF m 35 #[iv p18_0] [(.int (9 : Int32))])) rfl (hb hby d18_35) rfl (by decide) (cap := 9) (by decide) (by decide) (by decide) (by decide)
      obtain ⟨b34, gg34⟩ : ∃ z, z = h0.size := ⟨_, rfl⟩
      rw [← gg34] at A34 st34
      have g35 : n0 ≤ b34 := Nat.le_trans Z0 (Nat.le_of_eq gg34.symm)
      have bz36 : h0.size ≤ b34 := Nat.le_trans (Keep.refl h0 []).1 (Nat.le_of_eq gg34.symm)
      have K38 : Keep h0 h34 [] := (Keep.refl h0 []).ext E34
      have f37 : Av Z h34 b34 .char (9 : Int32) [(.int (0 : Int32)), (.int (0 : Int32)), (.int (0 : Int32)), (.int (0 : Int32)), (.int (0 : Int32)), (.int (0 : Int32)), (.int (0 : Int32)), (.int (0 : Int32)), (.int (0 : Int32))] (.int (0 : Int32)) := ⟨_, (Arv.new A34 (by decide)).pad (pad_rep [] (.int (0 : Int32)) 9)⟩
      obtain ⟨kk39, cl39, Ar39, qq39, Sz39, Nn39, Hs39, Gf39⟩ := id f37
      have hin40 : ¬ ((0 : Int32) < 0 ∨ cl39.slots.size ≤ ((0 : Int32)).toNatClampNeg) := inb_of Sz39 ⟨by decide, by decide⟩
      obtain ⟨T41, h41, X41, e41, W41, st41⟩ := stC X34 hx hZ e34 Ar39 (j := (0 : Int32)) hin40 (g := (mkF m 41 #[iv p18_0] [(.int (97 : Int32)), (.int (0 : Int32)), (.ref b34), (.ref b34)])) rfl rfl (hb hby d18_41)
      have K42 : Keep h0 h41 [] := (K38).wr W41 (Or.inr bz36)
      have f43 : Av Z h41 b34 .char (9 : Int32) [(.int (97 : Int32)), (.int (0 : Int32)), (.int (0 : Int32)), (.int (0 : Int32)), (.int (0 : Int32)), (.int (0 : Int32)), (.int (0 : Int32)), (.int (0 : Int32)), (.int (0 : Int32))] (.int (0 : Int32)) := ⟨_, Arv.set Ar39 qq39 Sz39 Nn39 Hs39 Gf39 (by first | rfl | exact fits_nar_char _) W41 0 rfl (Nat.le_of_ble_eq_true rfl)⟩
      have N44 := Fr.snoc X41 N0 g35
      obtain ⟨kk45, cl45, Ar45, qq45, Sz45, Nn45, Hs45, Gf45⟩ := id f43
      have hin46 : ¬ ((1 : Int32) < 0 ∨ cl45.slots.size ≤ ((1 : Int32)).toNatClampNeg) := inb_of Sz45 ⟨by decide, by decide⟩
      obtain ⟨T47, h47, X47, e47, W47, st47⟩ := stC X41 hx hZ e41 Ar45 (j := (1 : Int32)) hin46 (g := (mkF m 46 #[iv p18_0] [(.int (116 : Int32)), (.int (1 : Int32)), (.ref b34), (.ref b34)])) rfl rfl (hb hby d18_46)
      have K48 : Keep h0 h47 [] := (K42).wr W47 (Or.inr bz36)
      have f49 : Av Z h47 b34 .char (9 : Int32) [(.int (97 : Int32)), (.int (116 : Int32)), (.int (0 : Int32)), (.int (0 : Int32)), (.int (0 : Int32)), (.int (0 : Int32)), (.int (0 : Int32)), (.int (0 : Int32)), (.int (0 : Int32))] (.int (0 : Int32)) := ⟨_, Arv.set Ar45 qq45 Sz45 Nn45 Hs45 Gf45 (by first | rfl | exact fits_nar_char _) W47 1 rfl (Nat.le_of_ble_eq_true rfl)⟩
      have N50 := Fr.snoc X47 N44 g35
      obtain ⟨kk51, cl51, Ar51, qq51, Sz51, Nn51, Hs51, Gf51⟩ := id f49
      have hin52 : ¬ ((2 : Int32) < 0 ∨ cl51.slots.size ≤ ((2 : Int32)).toNatClampNeg) := inb_of Sz51 ⟨by decide, by decide⟩
      obtain ⟨T53, h53, X53, e53, W53, st53⟩ := stC X47 hx hZ e47 Ar51 (j := (2 : Int32)) hin52 (g := (mkF m 51 #[iv p18_0] [(.int (116 : Int32)), (.int (2 : Int32)), (.ref b34), (.ref b34)])) rfl rfl (hb hby d18_51)
      have K54 : Keep h0 h53 [] := (K48).wr W53 (Or.inr bz36)
      have f55 : Av Z h53 b34 .char (9 : Int32) [(.int (97 : Int32)), (.int (116 : Int32)), (.int (116 : Int32)), (.int (0 : Int32)), (.int (0 : Int32)), (.int (0 : Int32)), (.int (0 : Int32)), (.int (0 : Int32)), (.int (0 : Int32))] (.int (0 : Int32)) := ⟨_, Arv.set Ar51 qq51 Sz51 Nn51 Hs51 Gf51 (by first | rfl | exact fits_nar_char _) W53 2 rfl (Nat.le_of_ble_eq_true rfl)⟩
      have N56 := Fr.snoc X53 N50 g35
      obtain ⟨kk57, cl57, Ar57, qq57, Sz57, Nn57, Hs57, Gf57⟩ := id f55
      have hin58 : ¬ ((3 : Int32) < 0 ∨ cl57.slots.size ≤ ((3 : Int32)).toNatClampNeg) := inb_of Sz57 ⟨by decide, by decide⟩
      obtain ⟨T59, h59, X59, e59, W59, st59⟩ := stC X53 hx hZ e53 Ar57 (j := (3 : Int32)) hin58 (g := (mkF m 56 #[iv p18_0] [(.int (114 : Int32)), (.int (3 : Int32)), (.ref b34), (.ref b34)])) rfl rfl (hb hby d18_56)
      have K60 : Keep h0 h59 [] := (K54).wr W59 (Or.inr bz36)
      have f61 : Av Z h59 b34 .char (9 : Int32) [(.int (97 : Int32)), (.int (116 : Int32)), (.int (116 : Int32)), (.int (114 : Int32)), (.int (0 : Int32)), (.int (0 : Int32)), (.int (0 : Int32)), (.int (0 : Int32)), (.int (0 : Int32))] (.int (0 : Int32)) := ⟨_, Arv.set Ar57 qq57 Sz57 Nn57 Hs57 Gf57 (by first | rfl | exact fits_nar_char _) W59 3 rfl (Nat.le_of_ble_eq_true rfl)⟩
      have N62 := Fr.snoc X59 N56 g35
      obtain ⟨kk63, cl63, Ar63, qq63, Sz63, Nn63, Hs63, Gf63⟩ := id f61
      have hin64 : ¬ ((4 : Int32) < 0 ∨ cl63.slots.size ≤ ((4 : Int32)).toNatClampNeg) := inb_of Sz63 ⟨by decide, by decide⟩
      obtain ⟨T65, h65, X65, e65, W65, st65⟩ := stC X59 hx hZ e59 Ar63 (j := (4 : Int32)) hin64 (g := (mkF m 61 #[iv p18_0] [(.int (105 : Int32)), (.int (4 : Int32)), (.ref b34), (.ref b34)])) rfl rfl (hb hby d18_61)
      have K66 : Keep h0 h65 [] := (K60).wr W65 (Or.inr bz36)
      have f67 : Av Z h65 b34 .char (9 : Int32) [(.int (97 : Int32)), (.int (116 : Int32)), (.int (116 : Int32)), (.int (114 : Int32)), (.int (105 : Int32)), (.int (0 : Int32)), (.int (0 : Int32)), (.int (0 : Int32)), (.int (0 : Int32))] (.int (0 : Int32)) := ⟨_, Arv.set Ar63 qq63 Sz63 Nn63 Hs63 Gf63 (by first | rfl | exact fits_nar_char _) W65 4 rfl (Nat.le_of_ble_eq_true rfl)⟩
      have N68 := Fr.snoc X65 N62 g35
      obtain ⟨kk69, cl69, Ar69, qq69, Sz69, Nn69, Hs69, Gf69⟩ := id f67
      have hin70 : ¬ ((5 : Int32) < 0 ∨ cl69.slots.size ≤ ((5 : Int32)).toNatClampNeg) := inb_of Sz69 ⟨by decide, by decide⟩
      obtain ⟨T71, h71, X71, e71, W71, st71⟩ := stC X65 hx hZ e65 Ar69 (j := (5 : Int32)) hin70 (g := (mkF m 66 #[iv p18_0] [(.int (98 : Int32)), (.int (5 : Int32)), (.ref b34), (.ref b34)])) rfl rfl (hb hby d18_66)
      have K72 : Keep h0 h71 [] := (K66).wr W71 (Or.inr bz36)
      have f73 : Av Z h71 b34 .char (9 : Int32) [(.int (97 : Int32)), (.int (116 : Int32)), (.int (116 : Int32)), (.int (114 : Int32)), (.int (105 : Int32)), (.int (98 : Int32)), (.int (0 : Int32)), (.int (0 : Int32)), (.int (0 : Int32))] (.int (0 : Int32)) := ⟨_, Arv.set Ar69 qq69 Sz69 Nn69 Hs69 Gf69 (by first | rfl | exact fits_nar_char _) W71 5 rfl (Nat.le_of_ble_eq_true rfl)⟩
      have N74 := Fr.snoc X71 N68 g35
      obtain ⟨kk75, cl75, Ar75, qq75, Sz75, Nn75, Hs75, Gf75⟩ := id f73
      have hin76 : ¬ ((6 : Int32) < 0 ∨ cl75.slots.size ≤ ((6 : Int32)).toNatClampNeg) := inb_of Sz75 ⟨by decide, by decide⟩
      obtain ⟨T77, h77, X77, e77, W77, st77⟩ := stC X71 hx hZ e71 Ar75 (j := (6 : Int32)) hin76 (g := (mkF m 72 #[iv p18_0] [(.int (117 : Int32)), (.int (6 : Int32)), (.ref b34), (.ref b34)])) rfl rfl (hb hby d18_72)
      have K78 : Keep h0 h77 [] := (K72).wr W77 (Or.inr bz36)
      have f79 : Av Z h77 b34 .char (9 : Int32) [(.int (97 : Int32)), (.int (116 : Int32)), (.int (116 : Int32)), (.int (114 : Int32)), (.int (105 : Int32)), (.int (98 : Int32)), (.int (117 : Int32)), (.int (0 : Int32)), (.int (0 : Int32))] (.int (0 : Int32)) := ⟨_, Arv.set Ar75 qq75 Sz75 Nn75 Hs75 Gf75 (by first | rfl | exact fits_nar_char _) W77 6 rfl (Nat.le_of_ble_eq_true rfl)⟩
      have N80 := Fr.snoc X77 N74 g35
      obtain ⟨kk81, cl81, Ar81, qq81, Sz81, Nn81, Hs81, Gf81⟩ := id f79
      have hin82 : ¬ ((7 : Int32) < 0 ∨ cl81.slots.size ≤ ((7 : Int32)).toNatClampNeg) := inb_of Sz81 ⟨by decide, by decide⟩
      obtain ⟨T83, h83, X83, e83, W83, st83⟩ := stC X77 hx hZ e77 Ar81 (j := (7 : Int32)) hin82 (g := (mkF m 78 #[iv p18_0] [(.int (116 : Int32)), (.int (7 : Int32)), (.ref b34), (.ref b34)])) rfl rfl (hb hby d18_78)
      have K84 : Keep h0 h83 [] := (K78).wr W83 (Or.inr bz36)
      have f85 : Av Z h83 b34 .char (9 : Int32) [(.int (97 : Int32)), (.int (116 : Int32)), (.int (116 : Int32)), (.int (114 : Int32)), (.int (105 : Int32)), (.int (98 : Int32)), (.int (117 : Int32)), (.int (116 : Int32)), (.int (0 : Int32))] (.int (0 : Int32)) := ⟨_, Arv.set Ar81 qq81 Sz81 Nn81 Hs81 Gf81 (by first | rfl | exact fits_nar_char _) W83 7 rfl (Nat.le_of_ble_eq_true rfl)⟩
      have N86 := Fr.snoc X83 N80 g35
      obtain ⟨kk87, cl87, Ar87, qq87, Sz87, Nn87, Hs87, Gf87⟩ := id f85
      have hin88 : ¬ ((8 : Int32) < 0 ∨ cl87.slots.size ≤ ((8 : Int32)).toNatClampNeg) := inb_of Sz87 ⟨by decide, by decide⟩
      obtain ⟨T89, h89, X89, e89, W89, st89⟩ := stC X83 hx hZ e83 Ar87 (j := (8 : Int32)) hin88 (g := (mkF m 84 #[iv p18_0] [(.int (101 : Int32)), (.int (8 : Int32)), (.ref b34), (.ref b34)])) rfl rfl (hb hby d18_84)
      have K90 : Keep h0 h89 [] := (K84).wr W89 (Or.inr bz36)
      have f91 : Av Z h89 b34 .char (9 : Int32) [(.int (97 : Int32)), (.int (116 : Int32)), (.int (116 : Int32)), (.int (114 : Int32)), (.int (105 : Int32)), (.int (98 : Int32)), (.int (117 : Int32)), (.int (116 : Int32)), (.int (101 : Int32))] (.int (0 : Int32)) := ⟨_, Arv.set Ar87 qq87 Sz87 Nn87 Hs87 Gf87 (by first | rfl | exact fits_nar_char _) W89 8 rfl (Nat.le_of_ble_eq_true rfl)⟩
      have N92 := Fr.snoc X89 N86 g35
      obtain ⟨fs, hr, hrun, hended, hW, hsame⟩ := X89.leave (v := some (.ref b34)) (fun h => by rw [Bd.returns] at h; cases h)
      refine ⟨_, _, pre33 _ ?_, hrun, hended, _, _, rfl, ?_, ⟨_, rfl⟩, hW, hsame.mono (by decide) (by decide)⟩
      · show Steps p.tables e below (s₁.setTop (mkF m 30 #[iv p18_0] [(.int (1 : Int32)), (.int p18_0)])) _
        refine XS.icmpNo X0.here hx rfl (hb hby d18_30) rfl (teq hc30_32).2 ?_
        show Steps p.tables e below (s₁.setTop (mkF m 33 #[iv p18_0] [])) _
        refine XS.bipush X0.here hx rfl (hb hby d18_33) ?_
        show Steps p.tables e below (s₁.setTop (mkF m 35 #[iv p18_0] [(.int (9 : Int32))])) _
        refine st34 _ ?_
        show Steps p.tables e below (T34.setTop (mkF m 37 #[iv p18_0] [(.ref b34)])) _
        refine XS.dup X34.here hx rfl (hb hby d18_37) rfl rfl ?_
        show Steps p.tables e below (T34.setTop (mkF m 38 #[iv p18_0] [(.ref b34), (.ref b34)])) _
        refine XS.iconst X34.here hx rfl (hb hby d18_38) ?_
        show Steps p.tables e below (T34.setTop (mkF m 39 #[iv p18_0] [(.int (0 : Int32)), (.ref b34), (.ref b34)])) _
        refine XS.bipush X34.here hx rfl (hb hby d18_39) ?_
        show Steps p.tables e below (T34.setTop (mkF m 41 #[iv p18_0] [(.int (97 : Int32)), (.int (0 : Int32)), (.ref b34), (.ref b34)])) _
        refine st41 _ ?_
        show Steps p.tables e below (T41.setTop (mkF m 42 #[iv p18_0] [(.ref b34)])) _
        refine XS.dup X41.here hx rfl (hb hby d18_42) rfl rfl ?_
        show Steps p.tables e below (T41.setTop (mkF m 43 #[iv p18_0] [(.ref b34), (.ref b34)])) _
        refine XS.iconst X41.here hx rfl (hb hby d18_43) ?_
        show Steps p.tables e below (T41.setTop (mkF m 44 #[iv p18_0] [(.int (1 : Int32)), (.ref b34), (.ref b34)])) _
        refine XS.bipush X41.here hx rfl (hb hby d18_44) ?_
        show Steps p.tables e below (T41.setTop (mkF m 46 #[iv p18_0] [(.int (116 : Int32)), (.int (1 : Int32)), (.ref b34), (.ref b34)])) _
        refine st47 _ ?_
        show Steps p.tables e below (T47.setTop (mkF m 47 #[iv p18_0] [(.ref b34)])) _
        refine XS.dup X47.here hx rfl (hb hby d18_47) rfl rfl ?_
        show Steps p.tables e below (T47.setTop (mkF m 48 #[iv p18_0] [(.ref b34), (.ref b34)])) _
        refine XS.iconst X47.here hx rfl (hb hby d18_48) ?_
        show Steps p.tables e below (T47.setTop (mkF m 49 #[iv p18_0] [(.int (2 : Int32)), (.ref b34), (.ref b34)])) _
        refine XS.bipush X47.here hx rfl (hb hby d18_49) ?_
        show Steps p.tables e below (T47.setTop (mkF m 51 #[iv p18_0] [(.int (116 : Int32)), (.int (2 : Int32)), (.ref b34), (.ref b34)])) _
        refine st53 _ ?_
        show Steps p.tables e below (T53.setTop (mkF m 52 #[iv p18_0] [(.ref b34)])) _
        refine XS.dup X53.here hx rfl (hb hby d18_52) rfl rfl ?_
        show Steps p.tables e below (T53.setTop (mkF m 53 #[iv p18_0] [(.ref b34), (.ref b34)])) _
        refine XS.iconst X53.here hx rfl (hb hby d18_53) ?_
        show Steps p.tables e below (T53.setTop (mkF m 54 #[iv p18_0] [(.int (3 : Int32)), (.ref b34), (.ref b34)])) _
        refine XS.bipush X53.here hx rfl (hb hby d18_54) ?_
        show Steps p.tables e below (T53.setTop (mkF m 56 #[iv p18_0] [(.int (114 : Int32)), (.int (3 : Int32)), (.ref b34), (.ref b34)])) _
        refine st59 _ ?_
        show Steps p.tables e below (T59.setTop (mkF m 57 #[iv p18_0] [(.ref b34)])) _
        refine XS.dup X59.here hx rfl (hb hby d18_57) rfl rfl ?_
        show Steps p.tables e below (T59.setTop (mkF m 58 #[iv p18_0] [(.ref b34), (.ref b34)])) _
        refine XS.iconst X59.here hx rfl (hb hby d18_58) ?_
        show Steps p.tables e below (T59.setTop (mkF m 59 #[iv p18_0] [(.int (4 : Int32)), (.ref b34), (.ref b34)])) _
        refine XS.bipush X59.here hx rfl (hb hby d18_59) ?_
        show Steps p.tables e below (T59.setTop (mkF m 61 #[iv p18_0] [(.int (105 : Int32)), (.int (4 : Int32)), (.ref b34), (.ref b34)])) _
        refine st65 _ ?_
        show Steps p.tables e below (T65.setTop (mkF m 62 #[iv p18_0] [(.ref b34)])) _
        refine XS.dup X65.here hx rfl (hb hby d18_62) rfl rfl ?_
        show Steps p.tables e below (T65.setTop (mkF m 63 #[iv p18_0] [(.ref b34), (.ref b34)])) _
        refine XS.iconst X65.here hx rfl (hb hby d18_63) ?_
        show Steps p.tables e below (T65.setTop (mkF m 64 #[iv p18_0] [(.int (5 : Int32)), (.ref b34), (.ref b34)])) _
        refine XS.bipush X65.here hx rfl (hb hby d18_64) ?_
        show Steps p.tables e below (T65.setTop (mkF m 66 #[iv p18_0] [(.int (98 : Int32)), (.int (5 : Int32)), (.ref b34), (.ref b34)])) _
        refine st71 _ ?_
        show Steps p.tables e below (T71.setTop (mkF m 67 #[iv p18_0] [(.ref b34)])) _
        refine XS.dup X71.here hx rfl (hb hby d18_67) rfl rfl ?_
        show Steps p.tables e below (T71.setTop (mkF m 68 #[iv p18_0] [(.ref b34), (.ref b34)])) _
        refine XS.bipush X71.here hx rfl (hb hby d18_68) ?_
        show Steps p.tables e below (T71.setTop (mkF m 70 #[iv p18_0] [(.int (6 : Int32)), (.ref b34), (.ref b34)])) _
        refine XS.bipush X71.here hx rfl (hb hby d18_70) ?_
        show Steps p.tables e below (T71.setTop (mkF m 72 #[iv p18_0] [(.int (117 : Int32)), (.int (6 : Int32)), (.ref b34), (.ref b34)])) _
        refine st77 _ ?_
        show Steps p.tables e below (T77.setTop (mkF m 73 #[iv p18_0] [(.ref b34)])) _
        refine XS.dup X77.here hx rfl (hb hby d18_73) rfl rfl ?_
        show Steps p.tables e below (T77.setTop (mkF m 74 #[iv p18_0] [(.ref b34), (.ref b34)])) _
        refine XS.bipush X77.here hx rfl (hb hby d18_74) ?_
        show Steps p.tables e below (T77.setTop (mkF m 76 #[iv p18_0] [(.int (7 : Int32)), (.ref b34), (.ref b34)])) _
        refine XS.bipush X77.here hx rfl (hb hby d18_76) ?_
        show Steps p.tables e below (T77.setTop (mkF m 78 #[iv p18_0] [(.int (116 : Int32)), (.int (7 : Int32)), (.ref b34), (.ref b34)])) _
        refine st83 _ ?_
        show Steps p.tables e below (T83.setTop (mkF m 79 #[iv p18_0] [(.ref b34)])) _
        refine XS.dup X83.here hx rfl (hb hby d18_79) rfl rfl ?_
        show Steps p.tables e below (T83.setTop (mkF m 80 #[iv p18_0] [(.ref b34), (.ref b34)])) _
        refine XS.bipush X83.here hx rfl (hb hby d18_80) ?_
        show Steps p.tables e below (T83.setTop (mkF m 82 #[iv p18_0] [(.int (8 : Int32)), (.ref b34), (.ref b34)])) _
        refine XS.bipush X83.here hx rfl (hb hby d18_82) ?_
        show Steps p.tables e below (T83.setTop (mkF m 84 #[iv p18_0] [(.int (101 : Int32)), (.int (8 : Int32)), (.ref b34), (.ref b34)])) _
        refine st89 _ ?_
        show Steps p.tables e below (T89.setTop (mkF m 85 #[iv p18_0] [(.ref b34)])) _
        exact retOut X89 hx Bd.returns rfl (Or.inr (Or.inr (Or.inr (Or.inr ⟨rfl, rfl, rfl⟩)))) (hb hby d18_85) hr
      · show Q_rm18 Z _ h0 n0 _ T89.heap _
        rw [e89]
        exact ⟨b34, rfl, N92, (K90), bz36, (by rw [show own_short p18_0 = [97, 116, 116, 114, 105, 98, 117, 116, 101] from by unfold own_short; rw [if_neg hc1_1, if_pos hc30_32]]; exact f91)⟩
    · skip
      have pre94 : ∀ t, Steps p.tables e below (s₁.setTop (mkF m 88 #[iv p18_0] [(.int (2 : Int32)), (.int p18_0)])) t → Steps p.tables e below (s₁.setTop (entryFrame m #[(.int p18_0)] 1)) t := by
        intro t_ k_
        refine pre33 _ ?_
        show Steps p.tables e below (s₁.setTop (mkF m 30 #[iv p18_0] [(.int (1 : Int32)), (.int p18_0)])) _
        refine XS.icmpYes X0.here hx rfl (pc0 := 30) (pc' := 86) rfl (hb hby d18_30) rfl (feq hc30_32).2 (by decide) (by decide) ?_
        show Steps p.tables e below (s₁.setTop (mkF m 86 #[iv p18_0] [])) _
        refine XS.iloadN X0.here hx rfl (hb hby d18_86) rfl ?_
        show Steps p.tables e below (s₁.setTop (mkF m 87 #[iv p18_0] [(.int p18_0)])) _
        refine XS.iconst X0.here hx rfl (hb hby d18_87) ?_
        exact k_
      by_cases hc88_93 : p18_0 = (2 : Int32)
      · skip
        obtain ⟨T95, h95, k95, X95, e95, E95, A95, st95⟩ := newP (aty := .char) X0 hx hZ wo7 e0 (g := (mkF m 92 #[iv p18_0] [(.int (4 : Int32))])) rfl (hb hby d18_92) rfl (by decide) (cap := 4) (by decide) (by decide) (by decide) (by decide)
        obtain ⟨b95, gg95⟩ : ∃ z, z = h0.size := ⟨_, rfl⟩
        rw [← gg95] at A95 st95
        have g96 : n0 ≤ b95 := Nat.le_trans Z0 (Nat.le_of_eq gg95.symm)
        have bz97 : h0.size ≤ b95 := Nat.le_trans (Keep.refl h0 []).1 (Nat.le_of_eq gg95.symm)
        have K99 : Keep h0 h95 [] := (Keep.refl h0 []).ext E95
        have f98 : Av Z h95 b95 .char (4 : Int32) [(.int (0 : Int32)), (.int (0 : Int32)), (.int (0 : Int32)), (.int (0 : Int32))] (.int (0 : Int32)) := ⟨_, (Arv.new A95 (by decide)).pad (pad_rep [] (.int (0 : Int32)) 4)⟩
        obtain ⟨kk100, cl100, Ar100, qq100, Sz100, Nn100, Hs100, Gf100⟩ := id f98
        have hin101 : ¬ ((0 : Int32) < 0 ∨ cl100.slots.size ≤ ((0 : Int32)).toNatClampNeg) := inb_of Sz100 ⟨by decide, by decide⟩
        obtain ⟨T102, h102, X102, e102, W102, st102⟩ := stC X95 hx hZ e95 Ar100 (j := (0 : Int32)) hin101 (g := (mkF m 98 #[iv p18_0] [(.int (116 : Int32)), (.int (0 : Int32)), (.ref b95), (.ref b95)])) rfl rfl (hb hby d18_98)
        have K103 : Keep h0 h102 [] := (K99).wr W102 (Or.inr bz97)
        have f104 : Av Z h102 b95 .char (4 : Int32) [(.int (116 : Int32)), (.int (0 : Int32)), (.int (0 : Int32)), (.int (0 : Int32))] (.int (0 : Int32)) := ⟨_, Arv.set Ar100 qq100 Sz100 Nn100 Hs100 Gf100 (by first | rfl | exact fits_nar_char _) W102 0 rfl (Nat.le_of_ble_eq_true rfl)⟩
        have N105 := Fr.snoc X102 N0 g96
        obtain ⟨kk106, cl106, Ar106, qq106, Sz106, Nn106, Hs106, Gf106⟩ := id f104
        have hin107 : ¬ ((1 : Int32) < 0 ∨ cl106.slots.size ≤ ((1 : Int32)).toNatClampNeg) := inb_of Sz106 ⟨by decide, by decide⟩
        obtain ⟨T108, h108, X108, e108, W108, st108⟩ := stC X102 hx hZ e102 Ar106 (j := (1 : Int32)) hin107 (g := (mkF m 103 #[iv p18_0] [(.int (121 : Int32)), (.int (1 : Int32)), (.ref b95), (.ref b95)])) rfl rfl (hb hby d18_103)
        have K109 : Keep h0 h108 [] := (K103).wr W108 (Or.inr bz97)
        have f110 : Av Z h108 b95 .char (4 : Int32) [(.int (116 : Int32)), (.int (121 : Int32)), (.int (0 : Int32)), (.int (0 : Int32))] (.int (0 : Int32)) := ⟨_, Arv.set Ar106 qq106 Sz106 Nn106 Hs106 Gf106 (by first | rfl | exact fits_nar_char _) W108 1 rfl (Nat.le_of_ble_eq_true rfl)⟩
        have N111 := Fr.snoc X108 N105 g96
        obtain ⟨kk112, cl112, Ar112, qq112, Sz112, Nn112, Hs112, Gf112⟩ := id f110
        have hin113 : ¬ ((2 : Int32) < 0 ∨ cl112.slots.size ≤ ((2 : Int32)).toNatClampNeg) := inb_of Sz112 ⟨by decide, by decide⟩
        obtain ⟨T114, h114, X114, e114, W114, st114⟩ := stC X108 hx hZ e108 Ar112 (j := (2 : Int32)) hin113 (g := (mkF m 108 #[iv p18_0] [(.int (112 : Int32)), (.int (2 : Int32)), (.ref b95), (.ref b95)])) rfl rfl (hb hby d18_108)
        have K115 : Keep h0 h114 [] := (K109).wr W114 (Or.inr bz97)
        have f116 : Av Z h114 b95 .char (4 : Int32) [(.int (116 : Int32)), (.int (121 : Int32)), (.int (112 : Int32)), (.int (0 : Int32))] (.int (0 : Int32)) := ⟨_, Arv.set Ar112 qq112 Sz112 Nn112 Hs112 Gf112 (by first | rfl | exact fits_nar_char _) W114 2 rfl (Nat.le_of_ble_eq_true rfl)⟩
        have N117 := Fr.snoc X114 N111 g96
        obtain ⟨kk118, cl118, Ar118, qq118, Sz118, Nn118, Hs118, Gf118⟩ := id f116
        have hin119 : ¬ ((3 : Int32) < 0 ∨ cl118.slots.size ≤ ((3 : Int32)).toNatClampNeg) := inb_of Sz118 ⟨by decide, by decide⟩
        obtain ⟨T120, h120, X120, e120, W120, st120⟩ := stC X114 hx hZ e114 Ar118 (j := (3 : Int32)) hin119 (g := (mkF m 113 #[iv p18_0] [(.int (101 : Int32)), (.int (3 : Int32)), (.ref b95), (.ref b95)])) rfl rfl (hb hby d18_113)
        have K121 : Keep h0 h120 [] := (K115).wr W120 (Or.inr bz97)
        have f122 : Av Z h120 b95 .char (4 : Int32) [(.int (116 : Int32)), (.int (121 : Int32)), (.int (112 : Int32)), (.int (101 : Int32))] (.int (0 : Int32)) := ⟨_, Arv.set Ar118 qq118 Sz118 Nn118 Hs118 Gf118 (by first | rfl | exact fits_nar_char _) W120 3 rfl (Nat.le_of_ble_eq_true rfl)⟩
        have N123 := Fr.snoc X120 N117 g96
        obtain ⟨fs, hr, hrun, hended, hW, hsame⟩ := X120.leave (v := some (.ref b95)) (fun h => by rw [Bd.returns] at h; cases h)
        refine ⟨_, _, pre94 _ ?_, hrun, hended, _, _, rfl, ?_, ⟨_, rfl⟩, hW, hsame.mono (by decide) (by decide)⟩
        · show Steps p.tables e below (s₁.setTop (mkF m 88 #[iv p18_0] [(.int (2 : Int32)), (.int p18_0)])) _
          refine XS.icmpNo X0.here hx rfl (hb hby d18_88) rfl (teq hc88_93).2 ?_
          show Steps p.tables e below (s₁.setTop (mkF m 91 #[iv p18_0] [])) _
          refine XS.iconst X0.here hx rfl (hb hby d18_91) ?_
          show Steps p.tables e below (s₁.setTop (mkF m 92 #[iv p18_0] [(.int (4 : Int32))])) _
          refine st95 _ ?_
          show Steps p.tables e below (T95.setTop (mkF m 94 #[iv p18_0] [(.ref b95)])) _
          refine XS.dup X95.here hx rfl (hb hby d18_94) rfl rfl ?_
          show Steps p.tables e below (T95.setTop (mkF m 95 #[iv p18_0] [(.ref b95), (.ref b95)])) _
          refine XS.iconst X95.here hx rfl (hb hby d18_95) ?_
          show Steps p.tables e below (T95.setTop (mkF m 96 #[iv p18_0] [(.int (0 : Int32)), (.ref b95), (.ref b95)])) _
          refine XS.bipush X95.here hx rfl (hb hby d18_96) ?_
          show Steps p.tables e below (T95.setTop (mkF m 98 #[iv p18_0] [(.int (116 : Int32)), (.int (0 : Int32)), (.ref b95), (.ref b95)])) _
          refine st102 _ ?_
          show Steps p.tables e below (T102.setTop (mkF m 99 #[iv p18_0] [(.ref b95)])) _
          refine XS.dup X102.here hx rfl (hb hby d18_99) rfl rfl ?_
          show Steps p.tables e below (T102.setTop (mkF m 100 #[iv p18_0] [(.ref b95), (.ref b95)])) _
          refine XS.iconst X102.here hx rfl (hb hby d18_100) ?_
          show Steps p.tables e below (T102.setTop (mkF m 101 #[iv p18_0] [(.int (1 : Int32)), (.ref b95), (.ref b95)])) _
          refine XS.bipush X102.here hx rfl (hb hby d18_101) ?_
          show Steps p.tables e below (T102.setTop (mkF m 103 #[iv p18_0] [(.int (121 : Int32)), (.int (1 : Int32)), (.ref b95), (.ref b95)])) _
          refine st108 _ ?_
          show Steps p.tables e below (T108.setTop (mkF m 104 #[iv p18_0] [(.ref b95)])) _
          refine XS.dup X108.here hx rfl (hb hby d18_104) rfl rfl ?_
          show Steps p.tables e below (T108.setTop (mkF m 105 #[iv p18_0] [(.ref b95), (.ref b95)])) _
          refine XS.iconst X108.here hx rfl (hb hby d18_105) ?_
          show Steps p.tables e below (T108.setTop (mkF m 106 #[iv p18_0] [(.int (2 : Int32)), (.ref b95), (.ref b95)])) _
          refine XS.bipush X108.here hx rfl (hb hby d18_106) ?_
          show Steps p.tables e below (T108.setTop (mkF m 108 #[iv p18_0] [(.int (112 : Int32)), (.int (2 : Int32)), (.ref b95), (.ref b95)])) _
          refine st114 _ ?_
          show Steps p.tables e below (T114.setTop (mkF m 109 #[iv p18_0] [(.ref b95)])) _
          refine XS.dup X114.here hx rfl (hb hby d18_109) rfl rfl ?_
          show Steps p.tables e below (T114.setTop (mkF m 110 #[iv p18_0] [(.ref b95), (.ref b95)])) _
          refine XS.iconst X114.here hx rfl (hb hby d18_110) ?_
          show Steps p.tables e below (T114.setTop (mkF m 111 #[iv p18_0] [(.int (3 : Int32)), (.ref b95), (.ref b95)])) _
          refine XS.bipush X114.here hx rfl (hb hby d18_111) ?_
          show Steps p.tables e below (T114.setTop (mkF m 113 #[iv p18_0] [(.int (101 : Int32)), (.int (3 : Int32)), (.ref b95), (.ref b95)])) _
          refine st120 _ ?_
          show Steps p.tables e below (T120.setTop (mkF m 114 #[iv p18_0] [(.ref b95)])) _
          exact retOut X120 hx Bd.returns rfl (Or.inr (Or.inr (Or.inr (Or.inr ⟨rfl, rfl, rfl⟩)))) (hb hby d18_114) hr
        · show Q_rm18 Z _ h0 n0 _ T120.heap _
          rw [e120]
          exact ⟨b95, rfl, N123, (K121), bz97, (by rw [show own_short p18_0 = [116, 121, 112, 101] from by unfold own_short; rw [if_neg hc1_1, if_neg hc30_32, if_pos hc88_93]]; exact f122)⟩
      · skip
        obtain ⟨T124, h124, k124, X124, e124, E124, A124, st124⟩ := newP (aty := .char) X0 hx hZ wo7 e0 (g := (mkF m 116 #[iv p18_0] [(.int (4 : Int32))])) rfl (hb hby d18_116) rfl (by decide) (cap := 4) (by decide) (by decide) (by decide) (by decide)
        obtain ⟨b124, gg124⟩ : ∃ z, z = h0.size := ⟨_, rfl⟩
        rw [← gg124] at A124 st124
        have g125 : n0 ≤ b124 := Nat.le_trans Z0 (Nat.le_of_eq gg124.symm)
        have bz126 : h0.size ≤ b124 := Nat.le_trans (Keep.refl h0 []).1 (Nat.le_of_eq gg124.symm)
        have K128 : Keep h0 h124 [] := (Keep.refl h0 []).ext E124
        have f127 : Av Z h124 b124 .char (4 : Int32) [(.int (0 : Int32)), (.int (0 : Int32)), (.int (0 : Int32)), (.int (0 : Int32))] (.int (0 : Int32)) := ⟨_, (Arv.new A124 (by decide)).pad (pad_rep [] (.int (0 : Int32)) 4)⟩
        obtain ⟨kk129, cl129, Ar129, qq129, Sz129, Nn129, Hs129, Gf129⟩ := id f127
        have hin130 : ¬ ((0 : Int32) < 0 ∨ cl129.slots.size ≤ ((0 : Int32)).toNatClampNeg) := inb_of Sz129 ⟨by decide, by decide⟩
        obtain ⟨T131, h131, X131, e131, W131, st131⟩ := stC X124 hx hZ e124 Ar129 (j := (0 : Int32)) hin130 (g := (mkF m 122 #[iv p18_0] [(.int (108 : Int32)), (.int (0 : Int32)), (.ref b124), (.ref b124)])) rfl rfl (hb hby d18_122)
        have K132 : Keep h0 h131 [] := (K128).wr W131 (Or.inr bz126)
        have f133 : Av Z h131 b124 .char (4 : Int32) [(.int (108 : Int32)), (.int (0 : Int32)), (.int (0 : Int32)), (.int (0 : Int32))] (.int (0 : Int32)) := ⟨_, Arv.set Ar129 qq129 Sz129 Nn129 Hs129 Gf129 (by first | rfl | exact fits_nar_char _) W131 0 rfl (Nat.le_of_ble_eq_true rfl)⟩
        have N134 := Fr.snoc X131 N0 g125
        obtain ⟨kk135, cl135, Ar135, qq135, Sz135, Nn135, Hs135, Gf135⟩ := id f133
        have hin136 : ¬ ((1 : Int32) < 0 ∨ cl135.slots.size ≤ ((1 : Int32)).toNatClampNeg) := inb_of Sz135 ⟨by decide, by decide⟩
        obtain ⟨T137, h137, X137, e137, W137, st137⟩ := stC X131 hx hZ e131 Ar135 (j := (1 : Int32)) hin136 (g := (mkF m 127 #[iv p18_0] [(.int (105 : Int32)), (.int (1 : Int32)), (.ref b124), (.ref b124)])) rfl rfl (hb hby d18_127)
        have K138 : Keep h0 h137 [] := (K132).wr W137 (Or.inr bz126)
        have f139 : Av Z h137 b124 .char (4 : Int32) [(.int (108 : Int32)), (.int (105 : Int32)), (.int (0 : Int32)), (.int (0 : Int32))] (.int (0 : Int32)) := ⟨_, Arv.set Ar135 qq135 Sz135 Nn135 Hs135 Gf135 (by first | rfl | exact fits_nar_char _) W137 1 rfl (Nat.le_of_ble_eq_true rfl)⟩
        have N140 := Fr.snoc X137 N134 g125
        obtain ⟨kk141, cl141, Ar141, qq141, Sz141, Nn141, Hs141, Gf141⟩ := id f139
        have hin142 : ¬ ((2 : Int32) < 0 ∨ cl141.slots.size ≤ ((2 : Int32)).toNatClampNeg) := inb_of Sz141 ⟨by decide, by decide⟩
        obtain ⟨T143, h143, X143, e143, W143, st143⟩ := stC X137 hx hZ e137 Ar141 (j := (2 : Int32)) hin142 (g := (mkF m 132 #[iv p18_0] [(.int (110 : Int32)), (.int (2 : Int32)), (.ref b124), (.ref b124)])) rfl rfl (hb hby d18_132)
        have K144 : Keep h0 h143 [] := (K138).wr W143 (Or.inr bz126)
        have f145 : Av Z h143 b124 .char (4 : Int32) [(.int (108 : Int32)), (.int (105 : Int32)), (.int (110 : Int32)), (.int (0 : Int32))] (.int (0 : Int32)) := ⟨_, Arv.set Ar141 qq141 Sz141 Nn141 Hs141 Gf141 (by first | rfl | exact fits_nar_char _) W143 2 rfl (Nat.le_of_ble_eq_true rfl)⟩
        have N146 := Fr.snoc X143 N140 g125
        obtain ⟨kk147, cl147, Ar147, qq147, Sz147, Nn147, Hs147, Gf147⟩ := id f145
        have hin148 : ¬ ((3 : Int32) < 0 ∨ cl147.slots.size ≤ ((3 : Int32)).toNatClampNeg) := inb_of Sz147 ⟨by decide, by decide⟩
        obtain ⟨T149, h149, X149, e149, W149, st149⟩ := stC X143 hx hZ e143 Ar147 (j := (3 : Int32)) hin148 (g := (mkF m 137 #[iv p18_0] [(.int (107 : Int32)), (.int (3 : Int32)), (.ref b124), (.ref b124)])) rfl rfl (hb hby d18_137)
        have K150 : Keep h0 h149 [] := (K144).wr W149 (Or.inr bz126)
        have f151 : Av Z h149 b124 .char (4 : Int32) [(.int (108 : Int32)), (.int (105 : Int32)), (.int (110 : Int32)), (.int (107 : Int32))] (.int (0 : Int32)) := ⟨_, Arv.set Ar147 qq147 Sz147 Nn147 Hs147 Gf147 (by first | rfl | exact fits_nar_char _) W149 3 rfl (Nat.le_of_ble_eq_true rfl)⟩
        have N152 := Fr.snoc X149 N146 g125
        obtain ⟨fs, hr, hrun, hended, hW, hsame⟩ := X149.leave (v := some (.ref b124)) (fun h => by rw [Bd.returns] at h; cases h)
        refine ⟨_, _, pre94 _ ?_, hrun, hended, _, _, rfl, ?_, ⟨_, rfl⟩, hW, hsame.mono (by decide) (by decide)⟩
        · show Steps p.tables e below (s₁.setTop (mkF m 88 #[iv p18_0] [(.int (2 : Int32)), (.int p18_0)])) _
          refine XS.icmpYes X0.here hx rfl (pc0 := 88) (pc' := 115) rfl (hb hby d18_88) rfl (feq hc88_93).2 (by decide) (by decide) ?_
          show Steps p.tables e below (s₁.setTop (mkF m 115 #[iv p18_0] [])) _
          refine XS.iconst X0.here hx rfl (hb hby d18_115) ?_
          show Steps p.tables e below (s₁.setTop (mkF m 116 #[iv p18_0] [(.int (4 : Int32))])) _
          refine st124 _ ?_
          show Steps p.tables e below (T124.setTop (mkF m 118 #[iv p18_0] [(.ref b124)])) _
          refine XS.dup X124.here hx rfl (hb hby d18_118) rfl rfl ?_
          show Steps p.tables e below (T124.setTop (mkF m 119 #[iv p18_0] [(.ref b124), (.ref b124)])) _
          refine XS.iconst X124.here hx rfl (hb hby d18_119) ?_
          show Steps p.tables e below (T124.setTop (mkF m 120 #[iv p18_0] [(.int (0 : Int32)), (.ref b124), (.ref b124)])) _
          refine XS.bipush X124.here hx rfl (hb hby d18_120) ?_
          show Steps p.tables e below (T124.setTop (mkF m 122 #[iv p18_0] [(.int (108 : Int32)), (.int (0 : Int32)), (.ref b124), (.ref b124)])) _
          refine st131 _ ?_
          show Steps p.tables e below (T131.setTop (mkF m 123 #[iv p18_0] [(.ref b124)])) _
          refine XS.dup X131.here hx rfl (hb hby d18_123) rfl rfl ?_
          show Steps p.tables e below (T131.setTop (mkF m 124 #[iv p18_0] [(.ref b124), (.ref b124)])) _
          refine XS.iconst X131.here hx rfl (hb hby d18_124) ?_
          show Steps p.tables e below (T131.setTop (mkF m 125 #[iv p18_0] [(.int (1 : Int32)), (.ref b124), (.ref b124)])) _
          refine XS.bipush X131.here hx rfl (hb hby d18_125) ?_
          show Steps p.tables e below (T131.setTop (mkF m 127 #[iv p18_0] [(.int (105 : Int32)), (.int (1 : Int32)), (.ref b124), (.ref b124)])) _
          refine st137 _ ?_
          show Steps p.tables e below (T137.setTop (mkF m 128 #[iv p18_0] [(.ref b124)])) _
          refine XS.dup X137.here hx rfl (hb hby d18_128) rfl rfl ?_
          show Steps p.tables e below (T137.setTop (mkF m 129 #[iv p18_0] [(.ref b124), (.ref b124)])) _
          refine XS.iconst X137.here hx rfl (hb hby d18_129) ?_
          show Steps p.tables e below (T137.setTop (mkF m 130 #[iv p18_0] [(.int (2 : Int32)), (.ref b124), (.ref b124)])) _
          refine XS.bipush X137.here hx rfl (hb hby d18_130) ?_
          show Steps p.tables e below (T137.setTop (mkF m 132 #[iv p18_0] [(.int (110 : Int32)), (.int (2 : Int32)), (.ref b124), (.ref b124)])) _
          refine st143 _ ?_
          show Steps p.tables e below (T143.setTop (mkF m 133 #[iv p18_0] [(.ref b124)])) _
          refine XS.dup X143.here hx rfl (hb hby d18_133) rfl rfl ?_
          show Steps p.tables e below (T143.setTop (mkF m 134 #[iv p18_0] [(.ref b124), (.ref b124)])) _
          refine XS.iconst X143.here hx rfl (hb hby d18_134) ?_
          show Steps p.tables e below (T143.setTop (mkF m 135 #[iv p18_0] [(.int (3 : Int32)), (.ref b124), (.ref b124)])) _
          refine XS.bipush X143.here hx rfl (hb hby d18_135) ?_
          show Steps p.tables e below (T143.setTop (mkF m 137 #[iv p18_0] [(.int (107 : Int32)), (.int (3 : Int32)), (.ref b124), (.ref b124)])) _
          refine st149 _ ?_
          show Steps p.tables e below (T149.setTop (mkF m 138 #[iv p18_0] [(.ref b124)])) _
          exact retOut X149 hx Bd.returns rfl (Or.inr (Or.inr (Or.inr (Or.inr ⟨rfl, rfl, rfl⟩)))) (hb hby d18_138) hr
        · show Q_rm18 Z _ h0 n0 _ T149.heap _
          rw [e149]
          exact ⟨b124, rfl, N152, (K150), bz126, (by rw [show own_short p18_0 = [108, 105, 110, 107] from by unfold own_short; rw [if_neg hc1_1, if_neg hc30_32, if_neg hc88_93]]; exact f151)⟩
theorem d13_0 : decode method_6_code 0 = .ok (.iload_n 0, 1) := by decide +kernel
theorem d13_1 : decode method_6_code 1 = .ok (.ifCond .ne 37, 3) := by decide +kernel
theorem d13_4 : decode method_6_code 4 = .ok (.bipush 6, 2) := by decide +kernel
theorem d13_6 : decode method_6_code 6 = .ok (.newarray .char, 2) := by decide +kernel
theorem d13_8 : decode method_6_code 8 = .ok (.dup, 1) := by decide +kernel
theorem d13_9 : decode method_6_code 9 = .ok (.iconst 0, 1) := by decide +kernel
theorem d13_10 : decode method_6_code 10 = .ok (.bipush 110, 2) := by decide +kernel
theorem d13_12 : decode method_6_code 12 = .ok (.castore, 1) := by decide +kernel
theorem d13_13 : decode method_6_code 13 = .ok (.dup, 1) := by decide +kernel
theorem d13_14 : decode method_6_code 14 = .ok (.iconst 1, 1) := by decide +kernel
theorem d13_15 : decode method_6_code 15 = .ok (.bipush 97, 2) := by decide +kernel
theorem d13_17 : decode method_6_code 17 = .ok (.castore, 1) := by decide +kernel
theorem d13_18 : decode method_6_code 18 = .ok (.dup, 1) := by decide +kernel
theorem d13_19 : decode method_6_code 19 = .ok (.iconst 2, 1) := by decide +kernel
theorem d13_20 : decode method_6_code 20 = .ok (.bipush 109, 2) := by decide +kernel
theorem d13_22 : decode method_6_code 22 = .ok (.castore, 1) := by decide +kernel
theorem d13_23 : decode method_6_code 23 = .ok (.dup, 1) := by decide +kernel
theorem d13_24 : decode method_6_code 24 = .ok (.iconst 3, 1) := by decide +kernel
theorem d13_25 : decode method_6_code 25 = .ok (.bipush 101, 2) := by decide +kernel
theorem d13_27 : decode method_6_code 27 = .ok (.castore, 1) := by decide +kernel
theorem d13_28 : decode method_6_code 28 = .ok (.dup, 1) := by decide +kernel
theorem d13_29 : decode method_6_code 29 = .ok (.iconst 4, 1) := by decide +kernel
theorem d13_30 : decode method_6_code 30 = .ok (.bipush 115, 2) := by decide +kernel
theorem d13_32 : decode method_6_code 32 = .ok (.castore, 1) := by decide +kernel
theorem d13_33 : decode method_6_code 33 = .ok (.dup, 1) := by decide +kernel
theorem d13_34 : decode method_6_code 34 = .ok (.iconst 5, 1) := by decide +kernel
theorem d13_35 : decode method_6_code 35 = .ok (.iload_n 1, 1) := by decide +kernel
theorem d13_36 : decode method_6_code 36 = .ok (.castore, 1) := by decide +kernel
theorem d13_37 : decode method_6_code 37 = .ok (.areturn, 1) := by decide +kernel
theorem d13_38 : decode method_6_code 38 = .ok (.iload_n 0, 1) := by decide +kernel
theorem d13_39 : decode method_6_code 39 = .ok (.iconst 1, 1) := by decide +kernel
theorem d13_40 : decode method_6_code 40 = .ok (.if_icmp .ne 67, 3) := by decide +kernel
theorem d13_43 : decode method_6_code 43 = .ok (.bipush 11, 2) := by decide +kernel
theorem d13_45 : decode method_6_code 45 = .ok (.newarray .char, 2) := by decide +kernel
theorem d13_47 : decode method_6_code 47 = .ok (.dup, 1) := by decide +kernel
theorem d13_48 : decode method_6_code 48 = .ok (.iconst 0, 1) := by decide +kernel
theorem d13_49 : decode method_6_code 49 = .ok (.bipush 97, 2) := by decide +kernel
theorem d13_51 : decode method_6_code 51 = .ok (.castore, 1) := by decide +kernel
theorem d13_52 : decode method_6_code 52 = .ok (.dup, 1) := by decide +kernel
theorem d13_53 : decode method_6_code 53 = .ok (.iconst 1, 1) := by decide +kernel
theorem d13_54 : decode method_6_code 54 = .ok (.bipush 116, 2) := by decide +kernel
theorem d13_56 : decode method_6_code 56 = .ok (.castore, 1) := by decide +kernel
theorem d13_57 : decode method_6_code 57 = .ok (.dup, 1) := by decide +kernel
theorem d13_58 : decode method_6_code 58 = .ok (.iconst 2, 1) := by decide +kernel
theorem d13_59 : decode method_6_code 59 = .ok (.bipush 116, 2) := by decide +kernel
theorem d13_61 : decode method_6_code 61 = .ok (.castore, 1) := by decide +kernel
theorem d13_62 : decode method_6_code 62 = .ok (.dup, 1) := by decide +kernel
theorem d13_63 : decode method_6_code 63 = .ok (.iconst 3, 1) := by decide +kernel
theorem d13_64 : decode method_6_code 64 = .ok (.bipush 114, 2) := by decide +kernel
theorem d13_66 : decode method_6_code 66 = .ok (.castore, 1) := by decide +kernel
theorem d13_67 : decode method_6_code 67 = .ok (.dup, 1) := by decide +kernel
theorem d13_68 : decode method_6_code 68 = .ok (.iconst 4, 1) := by decide +kernel
theorem d13_69 : decode method_6_code 69 = .ok (.bipush 105, 2) := by decide +kernel
theorem d13_71 : decode method_6_code 71 = .ok (.castore, 1) := by decide +kernel
theorem d13_72 : decode method_6_code 72 = .ok (.dup, 1) := by decide +kernel
theorem d13_73 : decode method_6_code 73 = .ok (.iconst 5, 1) := by decide +kernel
theorem d13_74 : decode method_6_code 74 = .ok (.bipush 98, 2) := by decide +kernel
theorem d13_76 : decode method_6_code 76 = .ok (.castore, 1) := by decide +kernel
theorem d13_77 : decode method_6_code 77 = .ok (.dup, 1) := by decide +kernel
theorem d13_78 : decode method_6_code 78 = .ok (.bipush 6, 2) := by decide +kernel
theorem d13_80 : decode method_6_code 80 = .ok (.bipush 117, 2) := by decide +kernel
theorem d13_82 : decode method_6_code 82 = .ok (.castore, 1) := by decide +kernel
theorem d13_83 : decode method_6_code 83 = .ok (.dup, 1) := by decide +kernel
theorem d13_84 : decode method_6_code 84 = .ok (.bipush 7, 2) := by decide +kernel
theorem d13_86 : decode method_6_code 86 = .ok (.bipush 116, 2) := by decide +kernel
theorem d13_88 : decode method_6_code 88 = .ok (.castore, 1) := by decide +kernel
theorem d13_89 : decode method_6_code 89 = .ok (.dup, 1) := by decide +kernel
theorem d13_90 : decode method_6_code 90 = .ok (.bipush 8, 2) := by decide +kernel
theorem d13_92 : decode method_6_code 92 = .ok (.bipush 101, 2) := by decide +kernel
theorem d13_94 : decode method_6_code 94 = .ok (.castore, 1) := by decide +kernel
theorem d13_95 : decode method_6_code 95 = .ok (.dup, 1) := by decide +kernel
theorem d13_96 : decode method_6_code 96 = .ok (.bipush 9, 2) := by decide +kernel
theorem d13_98 : decode method_6_code 98 = .ok (.bipush 115, 2) := by decide +kernel
theorem d13_100 : decode method_6_code 100 = .ok (.castore, 1) := by decide +kernel
theorem d13_101 : decode method_6_code 101 = .ok (.dup, 1) := by decide +kernel
theorem d13_102 : decode method_6_code 102 = .ok (.bipush 10, 2) := by decide +kernel
theorem d13_104 : decode method_6_code 104 = .ok (.iload_n 1, 1) := by decide +kernel
theorem d13_105 : decode method_6_code 105 = .ok (.castore, 1) := by decide +kernel
theorem d13_106 : decode method_6_code 106 = .ok (.areturn, 1) := by decide +kernel
theorem d13_107 : decode method_6_code 107 = .ok (.iload_n 0, 1) := by decide +kernel
theorem d13_108 : decode method_6_code 108 = .ok (.iconst 2, 1) := by decide +kernel
theorem d13_109 : decode method_6_code 109 = .ok (.if_icmp .ne 37, 3) := by decide +kernel
theorem d13_112 : decode method_6_code 112 = .ok (.bipush 6, 2) := by decide +kernel
theorem d13_114 : decode method_6_code 114 = .ok (.newarray .char, 2) := by decide +kernel
theorem d13_116 : decode method_6_code 116 = .ok (.dup, 1) := by decide +kernel
theorem d13_117 : decode method_6_code 117 = .ok (.iconst 0, 1) := by decide +kernel
theorem d13_118 : decode method_6_code 118 = .ok (.bipush 116, 2) := by decide +kernel
theorem d13_120 : decode method_6_code 120 = .ok (.castore, 1) := by decide +kernel
theorem d13_121 : decode method_6_code 121 = .ok (.dup, 1) := by decide +kernel
theorem d13_122 : decode method_6_code 122 = .ok (.iconst 1, 1) := by decide +kernel
theorem d13_123 : decode method_6_code 123 = .ok (.bipush 121, 2) := by decide +kernel
theorem d13_125 : decode method_6_code 125 = .ok (.castore, 1) := by decide +kernel
theorem d13_126 : decode method_6_code 126 = .ok (.dup, 1) := by decide +kernel
theorem d13_127 : decode method_6_code 127 = .ok (.iconst 2, 1) := by decide +kernel
theorem d13_128 : decode method_6_code 128 = .ok (.bipush 112, 2) := by decide +kernel
theorem d13_130 : decode method_6_code 130 = .ok (.castore, 1) := by decide +kernel
theorem d13_131 : decode method_6_code 131 = .ok (.dup, 1) := by decide +kernel
theorem d13_132 : decode method_6_code 132 = .ok (.iconst 3, 1) := by decide +kernel
theorem d13_133 : decode method_6_code 133 = .ok (.bipush 101, 2) := by decide +kernel
theorem d13_135 : decode method_6_code 135 = .ok (.castore, 1) := by decide +kernel
theorem d13_136 : decode method_6_code 136 = .ok (.dup, 1) := by decide +kernel
theorem d13_137 : decode method_6_code 137 = .ok (.iconst 4, 1) := by decide +kernel
theorem d13_138 : decode method_6_code 138 = .ok (.bipush 115, 2) := by decide +kernel
theorem d13_140 : decode method_6_code 140 = .ok (.castore, 1) := by decide +kernel
theorem d13_141 : decode method_6_code 141 = .ok (.dup, 1) := by decide +kernel
theorem d13_142 : decode method_6_code 142 = .ok (.iconst 5, 1) := by decide +kernel
theorem d13_143 : decode method_6_code 143 = .ok (.iload_n 1, 1) := by decide +kernel
theorem d13_144 : decode method_6_code 144 = .ok (.castore, 1) := by decide +kernel
theorem d13_145 : decode method_6_code 145 = .ok (.areturn, 1) := by decide +kernel
theorem d13_146 : decode method_6_code 146 = .ok (.bipush 6, 2) := by decide +kernel
theorem d13_148 : decode method_6_code 148 = .ok (.newarray .char, 2) := by decide +kernel
theorem d13_150 : decode method_6_code 150 = .ok (.dup, 1) := by decide +kernel
theorem d13_151 : decode method_6_code 151 = .ok (.iconst 0, 1) := by decide +kernel
theorem d13_152 : decode method_6_code 152 = .ok (.bipush 108, 2) := by decide +kernel
theorem d13_154 : decode method_6_code 154 = .ok (.castore, 1) := by decide +kernel
theorem d13_155 : decode method_6_code 155 = .ok (.dup, 1) := by decide +kernel
theorem d13_156 : decode method_6_code 156 = .ok (.iconst 1, 1) := by decide +kernel
theorem d13_157 : decode method_6_code 157 = .ok (.bipush 105, 2) := by decide +kernel
theorem d13_159 : decode method_6_code 159 = .ok (.castore, 1) := by decide +kernel
theorem d13_160 : decode method_6_code 160 = .ok (.dup, 1) := by decide +kernel
theorem d13_161 : decode method_6_code 161 = .ok (.iconst 2, 1) := by decide +kernel
theorem d13_162 : decode method_6_code 162 = .ok (.bipush 110, 2) := by decide +kernel
theorem d13_164 : decode method_6_code 164 = .ok (.castore, 1) := by decide +kernel
theorem d13_165 : decode method_6_code 165 = .ok (.dup, 1) := by decide +kernel
theorem d13_166 : decode method_6_code 166 = .ok (.iconst 3, 1) := by decide +kernel
theorem d13_167 : decode method_6_code 167 = .ok (.bipush 107, 2) := by decide +kernel
theorem d13_169 : decode method_6_code 169 = .ok (.castore, 1) := by decide +kernel
theorem d13_170 : decode method_6_code 170 = .ok (.dup, 1) := by decide +kernel
theorem d13_171 : decode method_6_code 171 = .ok (.iconst 4, 1) := by decide +kernel
theorem d13_172 : decode method_6_code 172 = .ok (.bipush 115, 2) := by decide +kernel
theorem d13_174 : decode method_6_code 174 = .ok (.castore, 1) := by decide +kernel
theorem d13_175 : decode method_6_code 175 = .ok (.dup, 1) := by decide +kernel
theorem d13_176 : decode method_6_code 176 = .ok (.iconst 5, 1) := by decide +kernel
theorem d13_177 : decode method_6_code 177 = .ok (.iload_n 1, 1) := by decide +kernel
theorem d13_178 : decode method_6_code 178 = .ok (.castore, 1) := by decide +kernel
theorem d13_179 : decode method_6_code 179 = .ok (.areturn, 1) := by decide +kernel
theorem ef_rm13 (m : MethodId) (x0 : Int32) (x1 : Int32) : entryFrame m #[(.int x0), (.int x1)] 2 = mkF m 0 #[iv x0, iv x1] [] := by first | (simp [entryFrame, mkF, argsToLocals, Value.category]; done) | rfl
def Q_rm13 (Z : State) (p13_0 : Int32) (lc : Int32) (h0 : Heap) (n0 : Nat) (v : Option Value) (h : Heap) (L : List Loc) : Prop := ∃ (r : Addr), v = some (.ref r) ∧ Fr n0 L ∧ Keep h0 h [] ∧ (h0.size ≤ r) ∧ (Av Z h r .char (Int32.ofNat (own_long p13_0 lc).length) (own_cv (own_long p13_0 lc)) (.int (0 : Int32)))
set_option maxRecDepth 65536 in
set_option maxHeartbeats 40000000 in
theorem rm13 (l : Launch) (Z : State) (a0 : Array Value) (hw : ∀ d ∈ tables_1, d.before a0 Z = true) (ws : List Jvm.Cond) (p13_0 : Int32) (lc : Int32) (h0 : Heap) (n0 : Nat) (Z0 : n0 ≤ h0.size) (hrc : ¬ lc < 0 ∧ ¬ (255 : Int32) < lc) :
    MetFree l (⟨"com/example/iskati/iskati/entity/EntityFieldNamedPinLaw", "longOf", "(IC)[C"⟩ : MethodName) (head1 (Jvm.Cond.code (⟨"com/example/iskati/iskati/entity/EntityFieldNamedPinLaw", "longOf", "(IC)[C"⟩ : MethodName) method_6_code 2 (some (.array .char)) :: ws) ({ frames := 0, cells := 1, slots := 11, locals := 0 } : Room)) (fun a U => a = #[(.int p13_0), (.int lc)] ∧ Z.Warmed39 U.vm ∧ U.heap = h0) (fun _ _ _ _ _ => True) (fun _ U o U' => ∃ v L, o = .returned v ∧ Q_rm13 Z p13_0 lc h0 n0 v U'.heap L ∧ FrameEnd U o U' L ({ frames := 0, cells := 1, slots := 11, locals := 0 } : Room).cells ({ frames := 0, cells := 1, slots := 11, locals := 0 } : Room).slots) := by
  refine MetFree.of_bodySF (plainFor_of_name pn_com_example_iskati_iskati_entity_EntityFieldNamedPinLaw) hisR ?_
  intro p e s m args below meth c s₁ Bd hml0 hP hK
  obtain ⟨rfl, hZ, hh⟩ := hP
  have hx := Bd.exec
  have hby := Bd.bytes
  have hml : c.maxLocals = 2 := hml0
  have hown : s.vm.findClass "com/example/iskati/iskati/entity/EntityFieldNamedPinLaw" = some m.cls := findClass_of_methodNamed Bd.named
  have hnm := (name_of_methodNamed Bd.named Bd.method).1
  have X0 : Stand p l e ({ frames := 0, cells := 1, slots := 11, locals := 0 } : Room) s m #[(.int p13_0), (.int lc)] below meth c s₁ [] 0 0 := Stand.of_body Bd
  have e0 : s₁.heap = h0 := by rw [← hh, Bd.state]; rfl
  have N0 := Fr.nil n0
  have pre0 : ∀ t, Steps p.tables e below (s₁.setTop (mkF m 0 #[iv p13_0, iv lc] [])) t → Steps p.tables e below (s₁.setTop (entryFrame m #[(.int p13_0), (.int lc)] 2)) t := fun t k => castTop (ef_rm13 m p13_0 lc) k
  have wo7 := hw _ (List.mem_of_getElem? (i := 7) rfl)
  have pre2 : ∀ t, Steps p.tables e below (s₁.setTop (mkF m 1 #[iv p13_0, iv lc] [(.int p13_0)])) t → Steps p.tables e below (s₁.setTop (entryFrame m #[(.int p13_0), (.int lc)] 2)) t := by
    intro t_ k_
    refine pre0 _ ?_
    show Steps p.tables e below (s₁.setTop (mkF m 0 #[iv p13_0, iv lc] [])) _
    refine XS.iloadN X0.here hx rfl (hb hby d13_0) rfl ?_
    exact k_
  by_cases hc1_1 : p13_0 = (0 : Int32)
  · skip
    obtain ⟨T3, h3, k3, X3, e3, E3, A3, st3⟩ := newP (aty := .char) X0 hx hZ wo7 e0 (g := (mkF m 6 #[iv p13_0, iv lc] [(.int (6 : Int32))])) rfl (hb hby d13_6) rfl (by decide) (cap := 6) (by decide) (by decide) (by decide) (by decide)
    obtain ⟨b3, gg3⟩ : ∃ z, z = h0.size := ⟨_, rfl⟩
    rw [← gg3] at A3 st3
    have g4 : n0 ≤ b3 := Nat.le_trans Z0 (Nat.le_of_eq gg3.symm)
    have bz5 : h0.size ≤ b3 := Nat.le_trans (Keep.refl h0 []).1 (Nat.le_of_eq gg3.symm)
    have K7 : Keep h0 h3 [] := (Keep.refl h0 []).ext E3
    have f6 : Av Z h3 b3 .char (6 : Int32) [(.int (0 : Int32)), (.int (0 : Int32)), (.int (0 : Int32)), (.int (0 : Int32)), (.int (0 : Int32)), (.int (0 : Int32))] (.int (0 : Int32)) := ⟨_, (Arv.new A3 (by decide)).pad (pad_rep [] (.int (0 : Int32)) 6)⟩
    obtain ⟨kk8, cl8, Ar8, qq8, Sz8, Nn8, Hs8, Gf8⟩ := id f6
    have hin9 : ¬ ((0 : Int32) < 0 ∨ cl8.slots.size ≤ ((0 : Int32)).toNatClampNeg) := inb_of Sz8 ⟨by decide, by decide⟩
    obtain ⟨T10, h10, X10, e10, W10, st10⟩ := stC X3 hx hZ e3 Ar8 (j := (0 : Int32)) hin9 (g := (mkF m 12 #[iv p13_0, iv lc] [(.int (110 : Int32)), (.int (0 : Int32)), (.ref b3), (.ref b3)])) rfl rfl (hb hby d13_12)
    have K11 : Keep h0 h10 [] := (K7).wr W10 (Or.inr bz5)
    have f12 : Av Z h10 b3 .char (6 : Int32) [(.int (110 : Int32)), (.int (0 : Int32)), (.int (0 : Int32)), (.int (0 : Int32)), (.int (0 : Int32)), (.int (0 : Int32))] (.int (0 : Int32)) := ⟨_, Arv.set Ar8 qq8 Sz8 Nn8 Hs8 Gf8 (by first | rfl | exact fits_nar_char _) W10 0 rfl (Nat.le_of_ble_eq_true rfl)⟩
    have N13 := Fr.snoc X10 N0 g4
    obtain ⟨kk14, cl14, Ar14, qq14, Sz14, Nn14, Hs14, Gf14⟩ := id f12
    have hin15 : ¬ ((1 : Int32) < 0 ∨ cl14.slots.size ≤ ((1 : Int32)).toNatClampNeg) := inb_of Sz14 ⟨by decide, by decide⟩
    obtain ⟨T16, h16, X16, e16, W16, st16⟩ := stC X10 hx hZ e10 Ar14 (j := (1 : Int32)) hin15 (g := (mkF m 17 #[iv p13_0, iv lc] [(.int (97 : Int32)), (.int (1 : Int32)), (.ref b3), (.ref b3)])) rfl rfl (hb hby d13_17)
    have K17 : Keep h0 h16 [] := (K11).wr W16 (Or.inr bz5)
    have f18 : Av Z h16 b3 .char (6 : Int32) [(.int (110 : Int32)), (.int (97 : Int32)), (.int (0 : Int32)), (.int (0 : Int32)), (.int (0 : Int32)), (.int (0 : Int32))] (.int (0 : Int32)) := ⟨_, Arv.set Ar14 qq14 Sz14 Nn14 Hs14 Gf14 (by first | rfl | exact fits_nar_char _) W16 1 rfl (Nat.le_of_ble_eq_true rfl)⟩
    have N19 := Fr.snoc X16 N13 g4
    obtain ⟨kk20, cl20, Ar20, qq20, Sz20, Nn20, Hs20, Gf20⟩ := id f18
    have hin21 : ¬ ((2 : Int32) < 0 ∨ cl20.slots.size ≤ ((2 : Int32)).toNatClampNeg) := inb_of Sz20 ⟨by decide, by decide⟩
    obtain ⟨T22, h22, X22, e22, W22, st22⟩ := stC X16 hx hZ e16 Ar20 (j := (2 : Int32)) hin21 (g := (mkF m 22 #[iv p13_0, iv lc] [(.int (109 : Int32)), (.int (2 : Int32)), (.ref b3), (.ref b3)])) rfl rfl (hb hby d13_22)
    have K23 : Keep h0 h22 [] := (K17).wr W22 (Or.inr bz5)
    have f24 : Av Z h22 b3 .char (6 : Int32) [(.int (110 : Int32)), (.int (97 : Int32)), (.int (109 : Int32)), (.int (0 : Int32)), (.int (0 : Int32)), (.int (0 : Int32))] (.int (0 : Int32)) := ⟨_, Arv.set Ar20 qq20 Sz20 Nn20 Hs20 Gf20 (by first | rfl | exact fits_nar_char _) W22 2 rfl (Nat.le_of_ble_eq_true rfl)⟩
    have N25 := Fr.snoc X22 N19 g4
    obtain ⟨kk26, cl26, Ar26, qq26, Sz26, Nn26, Hs26, Gf26⟩ := id f24
    have hin27 : ¬ ((3 : Int32) < 0 ∨ cl26.slots.size ≤ ((3 : Int32)).toNatClampNeg) := inb_of Sz26 ⟨by decide, by decide⟩
    obtain ⟨T28, h28, X28, e28, W28, st28⟩ := stC X22 hx hZ e22 Ar26 (j := (3 : Int32)) hin27 (g := (mkF m 27 #[iv p13_0, iv lc] [(.int (101 : Int32)), (.int (3 : Int32)), (.ref b3), (.ref b3)])) rfl rfl (hb hby d13_27)
    have K29 : Keep h0 h28 [] := (K23).wr W28 (Or.inr bz5)
    have f30 : Av Z h28 b3 .char (6 : Int32) [(.int (110 : Int32)), (.int (97 : Int32)), (.int (109 : Int32)), (.int (101 : Int32)), (.int (0 : Int32)), (.int (0 : Int32))] (.int (0 : Int32)) := ⟨_, Arv.set Ar26 qq26 Sz26 Nn26 Hs26 Gf26 (by first | rfl | exact fits_nar_char _) W28 3 rfl (Nat.le_of_ble_eq_true rfl)⟩
    have N31 := Fr.snoc X28 N25 g4
    obtain ⟨kk32, cl32, Ar32, qq32, Sz32, Nn32, Hs32, Gf32⟩ := id f30
    have hin33 : ¬ ((4 : Int32) < 0 ∨ cl32.slots.size ≤ ((4 : Int32)).toNatClampNeg) := inb_of Sz32 ⟨by decide, by decide⟩
    obtain ⟨T34, h34, X34, e34, W34, st34⟩ := stC X28 hx hZ e28 Ar32 (j := (4 : Int32)) hin33 (g := (mkF m 32 #[iv p13_0, iv lc] [(.int (115 : Int32)), (.int (4 : Int32)), (.ref b3), (.ref b3)])) rfl rfl (hb hby d13_32)
    have K35 : Keep h0 h34 [] := (K29).wr W34 (Or.inr bz5)
    have f36 : Av Z h34 b3 .char (6 : Int32) [(.int (110 : Int32)), (.int (97 : Int32)), (.int (109 : Int32)), (.int (101 : Int32)), (.int (115 : Int32)), (.int (0 : Int32))] (.int (0 : Int32)) := ⟨_, Arv.set Ar32 qq32 Sz32 Nn32 Hs32 Gf32 (by first | rfl | exact fits_nar_char _) W34 4 rfl (Nat.le_of_ble_eq_true rfl)⟩
    have N37 := Fr.snoc X34 N31 g4
    obtain ⟨kk38, cl38, Ar38, qq38, Sz38, Nn38, Hs38, Gf38⟩ := id f36
    have hin39 : ¬ ((5 : Int32) < 0 ∨ cl38.slots.size ≤ ((5 : Int32)).toNatClampNeg) := inb_of Sz38 ⟨by decide, by decide⟩
    obtain ⟨T40, h40, X40, e40, W40, st40⟩ := stC X34 hx hZ e34 Ar38 (j := (5 : Int32)) hin39 (g := (mkF m 36 #[iv p13_0, iv lc] [(.int lc), (.int (5 : Int32)), (.ref b3), (.ref b3)])) rfl rfl (hb hby d13_36)
    have K41 : Keep h0 h40 [] := (K35).wr W40 (Or.inr bz5)
    have f42 : Av Z h40 b3 .char (6 : Int32) [(.int (110 : Int32)), (.int (97 : Int32)), (.int (109 : Int32)), (.int (101 : Int32)), (.int (115 : Int32)), (.int (nar .char lc))] (.int (0 : Int32)) := ⟨_, Arv.set Ar38 qq38 Sz38 Nn38 Hs38 Gf38 (by first | rfl | exact fits_nar_char _) W40 5 rfl (Nat.le_of_ble_eq_true rfl)⟩
    have N43 := Fr.snoc X40 N37 g4
    have q44 : (nar .char lc) = lc := own_narc hrc
    have f45 : Av Z h40 b3 .char (6 : Int32) [(.int (110 : Int32)), (.int (97 : Int32)), (.int (109 : Int32)), (.int (101 : Int32)), (.int (115 : Int32)), (.int lc)] (.int (0 : Int32)) := by rw [← q44]; exact f42
    obtain ⟨fs, hr, hrun, hended, hW, hsame⟩ := X40.leave (v := some (.ref b3)) (fun h => by rw [Bd.returns] at h; cases h)
    refine ⟨_, _, pre2 _ ?_, hrun, hended, _, _, rfl, ?_, ⟨_, rfl⟩, hW, hsame.mono (by decide) (by decide)⟩
    · show Steps p.tables e below (s₁.setTop (mkF m 1 #[iv p13_0, iv lc] [(.int p13_0)])) _
      refine XS.ifNo X0.here hx rfl (hb hby d13_1) rfl ((if0 _ _).trans (teq hc1_1).2) ?_
      show Steps p.tables e below (s₁.setTop (mkF m 4 #[iv p13_0, iv lc] [])) _
      refine XS.bipush X0.here hx rfl (hb hby d13_4) ?_
      show Steps p.tables e below (s₁.setTop (mkF m 6 #[iv p13_0, iv lc] [(.int (6 : Int32))])) _
      refine st3 _ ?_
      show Steps p.tables e below (T3.setTop (mkF m 8 #[iv p13_0, iv lc] [(.ref b3)])) _
      refine XS.dup X3.here hx rfl (hb hby d13_8) rfl rfl ?_
      show Steps p.tables e below (T3.setTop (mkF m 9 #[iv p13_0, iv lc] [(.ref b3), (.ref b3)])) _
      refine XS.iconst X3.here hx rfl (hb hby d13_9) ?_
      show Steps p.tables e below (T3.setTop (mkF m 10 #[iv p13_0, iv lc] [(.int (0 : Int32)), (.ref b3), (.ref b3)])) _
      refine XS.bipush X3.here hx rfl (hb hby d13_10) ?_
      show Steps p.tables e below (T3.setTop (mkF m 12 #[iv p13_0, iv lc] [(.int (110 : Int32)), (.int (0 : Int32)), (.ref b3), (.ref b3)])) _
      refine st10 _ ?_
      show Steps p.tables e below (T10.setTop (mkF m 13 #[iv p13_0, iv lc] [(.ref b3)])) _
      refine XS.dup X10.here hx rfl (hb hby d13_13) rfl rfl ?_
      show Steps p.tables e below (T10.setTop (mkF m 14 #[iv p13_0, iv lc] [(.ref b3), (.ref b3)])) _
      refine XS.iconst X10.here hx rfl (hb hby d13_14) ?_
      show Steps p.tables e below (T10.setTop (mkF m 15 #[iv p13_0, iv lc] [(.int (1 : Int32)), (.ref b3), (.ref b3)])) _
      refine XS.bipush X10.here hx rfl (hb hby d13_15) ?_
      show Steps p.tables e below (T10.setTop (mkF m 17 #[iv p13_0, iv lc] [(.int (97 : Int32)), (.int (1 : Int32)), (.ref b3), (.ref b3)])) _
      refine st16 _ ?_
      show Steps p.tables e below (T16.setTop (mkF m 18 #[iv p13_0, iv lc] [(.ref b3)])) _
      refine XS.dup X16.here hx rfl (hb hby d13_18) rfl rfl ?_
      show Steps p.tables e below (T16.setTop (mkF m 19 #[iv p13_0, iv lc] [(.ref b3), (.ref b3)])) _
      refine XS.iconst X16.here hx rfl (hb hby d13_19) ?_
      show Steps p.tables e below (T16.setTop (mkF m 20 #[iv p13_0, iv lc] [(.int (2 : Int32)), (.ref b3), (.ref b3)])) _
      refine XS.bipush X16.here hx rfl (hb hby d13_20) ?_
      show Steps p.tables e below (T16.setTop (mkF m 22 #[iv p13_0, iv lc] [(.int (109 : Int32)), (.int (2 : Int32)), (.ref b3), (.ref b3)])) _
      refine st22 _ ?_
      show Steps p.tables e below (T22.setTop (mkF m 23 #[iv p13_0, iv lc] [(.ref b3)])) _
      refine XS.dup X22.here hx rfl (hb hby d13_23) rfl rfl ?_
      show Steps p.tables e below (T22.setTop (mkF m 24 #[iv p13_0, iv lc] [(.ref b3), (.ref b3)])) _
      refine XS.iconst X22.here hx rfl (hb hby d13_24) ?_
      show Steps p.tables e below (T22.setTop (mkF m 25 #[iv p13_0, iv lc] [(.int (3 : Int32)), (.ref b3), (.ref b3)])) _
      refine XS.bipush X22.here hx rfl (hb hby d13_25) ?_
      show Steps p.tables e below (T22.setTop (mkF m 27 #[iv p13_0, iv lc] [(.int (101 : Int32)), (.int (3 : Int32)), (.ref b3), (.ref b3)])) _
      refine st28 _ ?_
      show Steps p.tables e below (T28.setTop (mkF m 28 #[iv p13_0, iv lc] [(.ref b3)])) _
      refine XS.dup X28.here hx rfl (hb hby d13_28) rfl rfl ?_
      show Steps p.tables e below (T28.setTop (mkF m 29 #[iv p13_0, iv lc] [(.ref b3), (.ref b3)])) _
      refine XS.iconst X28.here hx rfl (hb hby d13_29) ?_
      show Steps p.tables e below (T28.setTop (mkF m 30 #[iv p13_0, iv lc] [(.int (4 : Int32)), (.ref b3), (.ref b3)])) _
      refine XS.bipush X28.here hx rfl (hb hby d13_30) ?_
      show Steps p.tables e below (T28.setTop (mkF m 32 #[iv p13_0, iv lc] [(.int (115 : Int32)), (.int (4 : Int32)), (.ref b3), (.ref b3)])) _
      refine st34 _ ?_
      show Steps p.tables e below (T34.setTop (mkF m 33 #[iv p13_0, iv lc] [(.ref b3)])) _
      refine XS.dup X34.here hx rfl (hb hby d13_33) rfl rfl ?_
      show Steps p.tables e below (T34.setTop (mkF m 34 #[iv p13_0, iv lc] [(.ref b3), (.ref b3)])) _
      refine XS.iconst X34.here hx rfl (hb hby d13_34) ?_
      show Steps p.tables e below (T34.setTop (mkF m 35 #[iv p13_0, iv lc] [(.int (5 : Int32)), (.ref b3), (.ref b3)])) _
      refine XS.iloadN X34.here hx rfl (hb hby d13_35) rfl ?_
      show Steps p.tables e below (T34.setTop (mkF m 36 #[iv p13_0, iv lc] [(.int lc), (.int (5 : Int32)), (.ref b3), (.ref b3)])) _
      refine st40 _ ?_
      show Steps p.tables e below (T40.setTop (mkF m 37 #[iv p13_0, iv lc] [(.ref b3)])) _
      show Steps p.tables e below (T40.setTop (mkF m 37 #[iv p13_0, iv lc] [(.ref b3)])) _
      exact retOut X40 hx Bd.returns rfl (Or.inr (Or.inr (Or.inr (Or.inr ⟨rfl, rfl, rfl⟩)))) (hb hby d13_37) hr
    · show Q_rm13 Z _ _ h0 n0 _ T40.heap _
      rw [e40]
      exact ⟨b3, rfl, N43, (K41), bz5, (by rw [show own_long p13_0 lc = [110, 97, 109, 101, 115, lc] from by unfold own_long; rw [if_pos hc1_1]]; exact f45)⟩
  · skip
    have pre47 : ∀ t, Steps p.tables e below (s₁.setTop (mkF m 40 #[iv p13_0, iv lc] [(.int (1 : Int32)), (.int p13_0)])) t → Steps p.tables e below (s₁.setTop (entryFrame m #[(.int p13_0), (.int lc)] 2)) t := by
      intro t_ k_
      refine pre2 _ ?_
      show Steps p.tables e below (s₁.setTop (mkF m 1 #[iv p13_0, iv lc] [(.int p13_0)])) _
      refine XS.ifYes X0.here hx rfl (pc0 := 1) (pc' := 38) rfl (hb hby d13_1) rfl ((if0 _ _).trans (feq hc1_1).2) (by decide) (by decide) ?_
      show Steps p.tables e below (s₁.setTop (mkF m 38 #[iv p13_0, iv lc] [])) _
      refine XS.iloadN X0.here hx rfl (hb hby d13_38) rfl ?_
      show Steps p.tables e below (s₁.setTop (mkF m 39 #[iv p13_0, iv lc] [(.int p13_0)])) _
      refine XS.iconst X0.here hx rfl (hb hby d13_39) ?_
      exact k_
    by_cases hc40_46 : p13_0 = (1 : Int32)
    · skip
      obtain ⟨T48, h48, k48, X48, e48, E48, A48, st48⟩ := newP (aty := .char) X0 hx hZ wo7 e0 (g := (mkF m 45 #[iv p13_0, iv lc] [(.int (11 : Int32))])) rfl (hb hby d13_45) rfl (by decide) (cap := 11) (by decide) (by decide) (by decide) (by decide)
      obtain ⟨b48, gg48⟩ : ∃ z, z = h0.size := ⟨_, rfl⟩
      rw [← gg48] at A48 st48
      have g49 : n0 ≤ b48 := Nat.le_trans Z0 (Nat.le_of_eq gg48.symm)
      have bz50 : h0.size ≤ b48 := Nat.le_trans (Keep.refl h0 []).1 (Nat.le_of_eq gg48.symm)
      have K52 : Keep h0 h48 [] := (Keep.refl h0 []).ext E48
      have f51 : Av Z h48 b48 .char (11 : Int32) [(.int (0 : Int32)), (.int (0 : Int32)), (.int (0 : Int32)), (.int (0 : Int32)), (.int (0 : Int32)), (.int (0 : Int32)), (.int (0 : Int32)), (.int (0 : Int32)), (.int (0 : Int32)), (.int (0 : Int32)), (.int (0 : Int32))] (.int (0 : Int32)) := ⟨_, (Arv.new A48 (by decide)).pad (pad_rep [] (.int (0 : Int32)) 11)⟩
      obtain ⟨kk53, cl53, Ar53, qq53, Sz53, Nn53, Hs53, Gf53⟩ := id f51
      have hin54 : ¬ ((0 : Int32) < 0 ∨ cl53.slots.size ≤ ((0 : Int32)).toNatClampNeg) := inb_of Sz53 ⟨by decide, by decide⟩
      obtain ⟨T55, h55, X55, e55, W55, st55⟩ := stC X48 hx hZ e48 Ar53 (j := (0 : Int32)) hin54 (g := (mkF m 51 #[iv p13_0, iv lc] [(.int (97 : Int32)), (.int (0 : Int32)), (.ref b48), (.ref b48)])) rfl rfl (hb hby d13_51)
      have K56 : Keep h0 h55 [] := (K52).wr W55 (Or.inr bz50)
      have f57 : Av Z h55 b48 .char (11 : Int32) [(.int (97 : Int32)), (.int (0 : Int32)), (.int (0 : Int32)), (.int (0 : Int32)), (.int (0 : Int32)), (.int (0 : Int32)), (.int (0 : Int32)), (.int (0 : Int32)), (.int (0 : Int32)), (.int (0 : Int32)), (.int (0 : Int32))] (.int (0 : Int32)) := ⟨_, Arv.set Ar53 qq53 Sz53 Nn53 Hs53 Gf53 (by first | rfl | exact fits_nar_char _) W55 0 rfl (Nat.le_of_ble_eq_true rfl)⟩
      have N58 := Fr.snoc X55 N0 g49
      obtain ⟨kk59, cl59, Ar59, qq59, Sz59, Nn59, Hs59, Gf59⟩ := id f57
      have hin60 : ¬ ((1 : Int32) < 0 ∨ cl59.slots.size ≤ ((1 : Int32)).toNatClampNeg) := inb_of Sz59 ⟨by decide, by decide⟩
      obtain ⟨T61, h61, X61, e61, W61, st61⟩ := stC X55 hx hZ e55 Ar59 (j := (1 : Int32)) hin60 (g := (mkF m 56 #[iv p13_0, iv lc] [(.int (116 : Int32)), (.int (1 : Int32)), (.ref b48), (.ref b48)])) rfl rfl (hb hby d13_56)
      have K62 : Keep h0 h61 [] := (K56).wr W61 (Or.inr bz50)
      have f63 : Av Z h61 b48 .char (11 : Int32) [(.int (97 : Int32)), (.int (116 : Int32)), (.int (0 : Int32)), (.int (0 : Int32)), (.int (0 : Int32)), (.int (0 : Int32)), (.int (0 : Int32)), (.int (0 : Int32)), (.int (0 : Int32)), (.int (0 : Int32)), (.int (0 : Int32))] (.int (0 : Int32)) := ⟨_, Arv.set Ar59 qq59 Sz59 Nn59 Hs59 Gf59 (by first | rfl | exact fits_nar_char _) W61 1 rfl (Nat.le_of_ble_eq_true rfl)⟩
      have N64 := Fr.snoc X61 N58 g49
      obtain ⟨kk65, cl65, Ar65, qq65, Sz65, Nn65, Hs65, Gf65⟩ := id f63
      have hin66 : ¬ ((2 : Int32) < 0 ∨ cl65.slots.size ≤ ((2 : Int32)).toNatClampNeg) := inb_of Sz65 ⟨by decide, by decide⟩
      obtain ⟨T67, h67, X67, e67, W67, st67⟩ := stC X61 hx hZ e61 Ar65 (j := (2 : Int32)) hin66 (g := (mkF m 61 #[iv p13_0, iv lc] [(.int (116 : Int32)), (.int (2 : Int32)), (.ref b48), (.ref b48)])) rfl rfl (hb hby d13_61)
      have K68 : Keep h0 h67 [] := (K62).wr W67 (Or.inr bz50)
      have f69 : Av Z h67 b48 .char (11 : Int32) [(.int (97 : Int32)), (.int (116 : Int32)), (.int (116 : Int32)), (.int (0 : Int32)), (.int (0 : Int32)), (.int (0 : Int32)), (.int (0 : Int32)), (.int (0 : Int32)), (.int (0 : Int32)), (.int (0 : Int32)), (.int (0 : Int32))] (.int (0 : Int32)) := ⟨_, Arv.set Ar65 qq65 Sz65 Nn65 Hs65 Gf65 (by first | rfl | exact fits_nar_char _) W67 2 rfl (Nat.le_of_ble_eq_true rfl)⟩
      have N70 := Fr.snoc X67 N64 g49
      obtain ⟨kk71, cl71, Ar71, qq71, Sz71, Nn71, Hs71, Gf71⟩ := id f69
      have hin72 : ¬ ((3 : Int32) < 0 ∨ cl71.slots.size ≤ ((3 : Int32)).toNatClampNeg) := inb_of Sz71 ⟨by decide, by decide⟩
      obtain ⟨T73, h73, X73, e73, W73, st73⟩ := stC X67 hx hZ e67 Ar71 (j := (3 : Int32)) hin72 (g := (mkF m 66 #[iv p13_0, iv lc] [(.int (114 : Int32)), (.int (3 : Int32)), (.ref b48), (.ref b48)])) rfl rfl (hb hby d13_66)
      have K74 : Keep h0 h73 [] := (K68).wr W73 (Or.inr bz50)
      have f75 : Av Z h73 b48 .char (11 : Int32) [(.int (97 : Int32)), (.int (116 : Int32)), (.int (116 : Int32)), (.int (114 : Int32)), (.int (0 : Int32)), (.int (0 : Int32)), (.int (0 : Int32)), (.int (0 : Int32)), (.int (0 : Int32)), (.int (0 : Int32)), (.int (0 : Int32))] (.int (0 : Int32)) := ⟨_, Arv.set Ar71 qq71 Sz71 Nn71 Hs71 Gf71 (by first | rfl | exact fits_nar_char _) W73 3 rfl (Nat.le_of_ble_eq_true rfl)⟩
      have N76 := Fr.snoc X73 N70 g49
      obtain ⟨kk77, cl77, Ar77, qq77, Sz77, Nn77, Hs77, Gf77⟩ := id f75
      have hin78 : ¬ ((4 : Int32) < 0 ∨ cl77.slots.size ≤ ((4 : Int32)).toNatClampNeg) := inb_of Sz77 ⟨by decide, by decide⟩
      obtain ⟨T79, h79, X79, e79, W79, st79⟩ := stC X73 hx hZ e73 Ar77 (j := (4 : Int32)) hin78 (g := (mkF m 71 #[iv p13_0, iv lc] [(.int (105 : Int32)), (.int (4 : Int32)), (.ref b48), (.ref b48)])) rfl rfl (hb hby d13_71)
      have K80 : Keep h0 h79 [] := (K74).wr W79 (Or.inr bz50)
      have f81 : Av Z h79 b48 .char (11 : Int32) [(.int (97 : Int32)), (.int (116 : Int32)), (.int (116 : Int32)), (.int (114 : Int32)), (.int (105 : Int32)), (.int (0 : Int32)), (.int (0 : Int32)), (.int (0 : Int32)), (.int (0 : Int32)), (.int (0 : Int32)), (.int (0 : Int32))] (.int (0 : Int32)) := ⟨_, Arv.set Ar77 qq77 Sz77 Nn77 Hs77 Gf77 (by first | rfl | exact fits_nar_char _) W79 4 rfl (Nat.le_of_ble_eq_true rfl)⟩
      have N82 := Fr.snoc X79 N76 g49
      obtain ⟨kk83, cl83, Ar83, qq83, Sz83, Nn83, Hs83, Gf83⟩ := id f81
      have hin84 : ¬ ((5 : Int32) < 0 ∨ cl83.slots.size ≤ ((5 : Int32)).toNatClampNeg) := inb_of Sz83 ⟨by decide, by decide⟩
      obtain ⟨T85, h85, X85, e85, W85, st85⟩ := stC X79 hx hZ e79 Ar83 (j := (5 : Int32)) hin84 (g := (mkF m 76 #[iv p13_0, iv lc] [(.int (98 : Int32)), (.int (5 : Int32)), (.ref b48), (.ref b48)])) rfl rfl (hb hby d13_76)
      have K86 : Keep h0 h85 [] := (K80).wr W85 (Or.inr bz50)
      have f87 : Av Z h85 b48 .char (11 : Int32) [(.int (97 : Int32)), (.int (116 : Int32)), (.int (116 : Int32)), (.int (114 : Int32)), (.int (105 : Int32)), (.int (98 : Int32)), (.int (0 : Int32)), (.int (0 : Int32)), (.int (0 : Int32)), (.int (0 : Int32)), (.int (0 : Int32))] (.int (0 : Int32)) := ⟨_, Arv.set Ar83 qq83 Sz83 Nn83 Hs83 Gf83 (by first | rfl | exact fits_nar_char _) W85 5 rfl (Nat.le_of_ble_eq_true rfl)⟩
      have N88 := Fr.snoc X85 N82 g49
      obtain ⟨kk89, cl89, Ar89, qq89, Sz89, Nn89, Hs89, Gf89⟩ := id f87
      have hin90 : ¬ ((6 : Int32) < 0 ∨ cl89.slots.size ≤ ((6 : Int32)).toNatClampNeg) := inb_of Sz89 ⟨by decide, by decide⟩
      obtain ⟨T91, h91, X91, e91, W91, st91⟩ := stC X85 hx hZ e85 Ar89 (j := (6 : Int32)) hin90 (g := (mkF m 82 #[iv p13_0, iv lc] [(.int (117 : Int32)), (.int (6 : Int32)), (.ref b48), (.ref b48)])) rfl rfl (hb hby d13_82)
      have K92 : Keep h0 h91 [] := (K86).wr W91 (Or.inr bz50)
      have f93 : Av Z h91 b48 .char (11 : Int32) [(.int (97 : Int32)), (.int (116 : Int32)), (.int (116 : Int32)), (.int (114 : Int32)), (.int (105 : Int32)), (.int (98 : Int32)), (.int (117 : Int32)), (.int (0 : Int32)), (.int (0 : Int32)), (.int (0 : Int32)), (.int (0 : Int32))] (.int (0 : Int32)) := ⟨_, Arv.set Ar89 qq89 Sz89 Nn89 Hs89 Gf89 (by first | rfl | exact fits_nar_char _) W91 6 rfl (Nat.le_of_ble_eq_true rfl)⟩
      have N94 := Fr.snoc X91 N88 g49
      obtain ⟨kk95, cl95, Ar95, qq95, Sz95, Nn95, Hs95, Gf95⟩ := id f93
      have hin96 : ¬ ((7 : Int32) < 0 ∨ cl95.slots.size ≤ ((7 : Int32)).toNatClampNeg) := inb_of Sz95 ⟨by decide, by decide⟩
      obtain ⟨T97, h97, X97, e97, W97, st97⟩ := stC X91 hx hZ e91 Ar95 (j := (7 : Int32)) hin96 (g := (mkF m 88 #[iv p13_0, iv lc] [(.int (116 : Int32)), (.int (7 : Int32)), (.ref b48), (.ref b48)])) rfl rfl (hb hby d13_88)
      have K98 : Keep h0 h97 [] := (K92).wr W97 (Or.inr bz50)
      have f99 : Av Z h97 b48 .char (11 : Int32) [(.int (97 : Int32)), (.int (116 : Int32)), (.int (116 : Int32)), (.int (114 : Int32)), (.int (105 : Int32)), (.int (98 : Int32)), (.int (117 : Int32)), (.int (116 : Int32)), (.int (0 : Int32)), (.int (0 : Int32)), (.int (0 : Int32))] (.int (0 : Int32)) := ⟨_, Arv.set Ar95 qq95 Sz95 Nn95 Hs95 Gf95 (by first | rfl | exact fits_nar_char _) W97 7 rfl (Nat.le_of_ble_eq_true rfl)⟩
      have N100 := Fr.snoc X97 N94 g49
      obtain ⟨kk101, cl101, Ar101, qq101, Sz101, Nn101, Hs101, Gf101⟩ := id f99
      have hin102 : ¬ ((8 : Int32) < 0 ∨ cl101.slots.size ≤ ((8 : Int32)).toNatClampNeg) := inb_of Sz101 ⟨by decide, by decide⟩
      obtain ⟨T103, h103, X103, e103, W103, st103⟩ := stC X97 hx hZ e97 Ar101 (j := (8 : Int32)) hin102 (g := (mkF m 94 #[iv p13_0, iv lc] [(.int (101 : Int32)), (.int (8 : Int32)), (.ref b48), (.ref b48)])) rfl rfl (hb hby d13_94)
      have K104 : Keep h0 h103 [] := (K98).wr W103 (Or.inr bz50)
      have f105 : Av Z h103 b48 .char (11 : Int32) [(.int (97 : Int32)), (.int (116 : Int32)), (.int (116 : Int32)), (.int (114 : Int32)), (.int (105 : Int32)), (.int (98 : Int32)), (.int (117 : Int32)), (.int (116 : Int32)), (.int (101 : Int32)), (.int (0 : Int32)), (.int (0 : Int32))] (.int (0 : Int32)) := ⟨_, Arv.set Ar101 qq101 Sz101 Nn101 Hs101 Gf101 (by first | rfl | exact fits_nar_char _) W103 8 rfl (Nat.le_of_ble_eq_true rfl)⟩
      have N106 := Fr.snoc X103 N100 g49
      obtain ⟨kk107, cl107, Ar107, qq107, Sz107, Nn107, Hs107, Gf107⟩ := id f105
      have hin108 : ¬ ((9 : Int32) < 0 ∨ cl107.slots.size ≤ ((9 : Int32)).toNatClampNeg) := inb_of Sz107 ⟨by decide, by decide⟩
      obtain ⟨T109, h109, X109, e109, W109, st109⟩ := stC X103 hx hZ e103 Ar107 (j := (9 : Int32)) hin108 (g := (mkF m 100 #[iv p13_0, iv lc] [(.int (115 : Int32)), (.int (9 : Int32)), (.ref b48), (.ref b48)])) rfl rfl (hb hby d13_100)
      have K110 : Keep h0 h109 [] := (K104).wr W109 (Or.inr bz50)
      have f111 : Av Z h109 b48 .char (11 : Int32) [(.int (97 : Int32)), (.int (116 : Int32)), (.int (116 : Int32)), (.int (114 : Int32)), (.int (105 : Int32)), (.int (98 : Int32)), (.int (117 : Int32)), (.int (116 : Int32)), (.int (101 : Int32)), (.int (115 : Int32)), (.int (0 : Int32))] (.int (0 : Int32)) := ⟨_, Arv.set Ar107 qq107 Sz107 Nn107 Hs107 Gf107 (by first | rfl | exact fits_nar_char _) W109 9 rfl (Nat.le_of_ble_eq_true rfl)⟩
      have N112 := Fr.snoc X109 N106 g49
      obtain ⟨kk113, cl113, Ar113, qq113, Sz113, Nn113, Hs113, Gf113⟩ := id f111
      have hin114 : ¬ ((10 : Int32) < 0 ∨ cl113.slots.size ≤ ((10 : Int32)).toNatClampNeg) := inb_of Sz113 ⟨by decide, by decide⟩
      obtain ⟨T115, h115, X115, e115, W115, st115⟩ := stC X109 hx hZ e109 Ar113 (j := (10 : Int32)) hin114 (g := (mkF m 105 #[iv p13_0, iv lc] [(.int lc), (.int (10 : Int32)), (.ref b48), (.ref b48)])) rfl rfl (hb hby d13_105)
      have K116 : Keep h0 h115 [] := (K110).wr W115 (Or.inr bz50)
      have f117 : Av Z h115 b48 .char (11 : Int32) [(.int (97 : Int32)), (.int (116 : Int32)), (.int (116 : Int32)), (.int (114 : Int32)), (.int (105 : Int32)), (.int (98 : Int32)), (.int (117 : Int32)), (.int (116 : Int32)), (.int (101 : Int32)), (.int (115 : Int32)), (.int (nar .char lc))] (.int (0 : Int32)) := ⟨_, Arv.set Ar113 qq113 Sz113 Nn113 Hs113 Gf113 (by first | rfl | exact fits_nar_char _) W115 10 rfl (Nat.le_of_ble_eq_true rfl)⟩
      have N118 := Fr.snoc X115 N112 g49
      have q119 : (nar .char lc) = lc := own_narc hrc
      have f120 : Av Z h115 b48 .char (11 : Int32) [(.int (97 : Int32)), (.int (116 : Int32)), (.int (116 : Int32)), (.int (114 : Int32)), (.int (105 : Int32)), (.int (98 : Int32)), (.int (117 : Int32)), (.int (116 : Int32)), (.int (101 : Int32)), (.int (115 : Int32)), (.int lc)] (.int (0 : Int32)) := by rw [← q119]; exact f117
      obtain ⟨fs, hr, hrun, hended, hW, hsame⟩ := X115.leave (v := some (.ref b48)) (fun h => by rw [Bd.returns] at h; cases h)
      refine ⟨_, _, pre47 _ ?_, hrun, hended, _, _, rfl, ?_, ⟨_, rfl⟩, hW, hsame.mono (by decide) (by decide)⟩
      · show Steps p.tables e below (s₁.setTop (mkF m 40 #[iv p13_0, iv lc] [(.int (1 : Int32)), (.int p13_0)])) _
        refine XS.icmpNo X0.here hx rfl (hb hby d13_40) rfl (teq hc40_46).2 ?_
        show Steps p.tables e below (s₁.setTop (mkF m 43 #[iv p13_0, iv lc] [])) _
        refine XS.bipush X0.here hx rfl (hb hby d13_43) ?_
        show Steps p.tables e below (s₁.setTop (mkF m 45 #[iv p13_0, iv lc] [(.int (11 : Int32))])) _
        refine st48 _ ?_
        show Steps p.tables e below (T48.setTop (mkF m 47 #[iv p13_0, iv lc] [(.ref b48)])) _
        refine XS.dup X48.here hx rfl (hb hby d13_47) rfl rfl ?_
        show Steps p.tables e below (T48.setTop (mkF m 48 #[iv p13_0, iv lc] [(.ref b48), (.ref b48)])) _
        refine XS.iconst X48.here hx rfl (hb hby d13_48) ?_
        show Steps p.tables e below (T48.setTop (mkF m 49 #[iv p13_0, iv lc] [(.int (0 : Int32)), (.ref b48), (.ref b48)])) _
        refine XS.bipush X48.here hx rfl (hb hby d13_49) ?_
        show Steps p.tables e below (T48.setTop (mkF m 51 #[iv p13_0, iv lc] [(.int (97 : Int32)), (.int (0 : Int32)), (.ref b48), (.ref b48)])) _
        refine st55 _ ?_
        show Steps p.tables e below (T55.setTop (mkF m 52 #[iv p13_0, iv lc] [(.ref b48)])) _
        refine XS.dup X55.here hx rfl (hb hby d13_52) rfl rfl ?_
        show Steps p.tables e below (T55.setTop (mkF m 53 #[iv p13_0, iv lc] [(.ref b48), (.ref b48)])) _
        refine XS.iconst X55.here hx rfl (hb hby d13_53) ?_
        show Steps p.tables e below (T55.setTop (mkF m 54 #[iv p13_0, iv lc] [(.int (1 : Int32)), (.ref b48), (.ref b48)])) _
        refine XS.bipush X55.here hx rfl (hb hby d13_54) ?_
        show Steps p.tables e below (T55.setTop (mkF m 56 #[iv p13_0, iv lc] [(.int (116 : Int32)), (.int (1 : Int32)), (.ref b48), (.ref b48)])) _
        refine st61 _ ?_
        show Steps p.tables e below (T61.setTop (mkF m 57 #[iv p13_0, iv lc] [(.ref b48)])) _
        refine XS.dup X61.here hx rfl (hb hby d13_57) rfl rfl ?_
        show Steps p.tables e below (T61.setTop (mkF m 58 #[iv p13_0, iv lc] [(.ref b48), (.ref b48)])) _
        refine XS.iconst X61.here hx rfl (hb hby d13_58) ?_
        show Steps p.tables e below (T61.setTop (mkF m 59 #[iv p13_0, iv lc] [(.int (2 : Int32)), (.ref b48), (.ref b48)])) _
        refine XS.bipush X61.here hx rfl (hb hby d13_59) ?_
        show Steps p.tables e below (T61.setTop (mkF m 61 #[iv p13_0, iv lc] [(.int (116 : Int32)), (.int (2 : Int32)), (.ref b48), (.ref b48)])) _
        refine st67 _ ?_
        show Steps p.tables e below (T67.setTop (mkF m 62 #[iv p13_0, iv lc] [(.ref b48)])) _
        refine XS.dup X67.here hx rfl (hb hby d13_62) rfl rfl ?_
        show Steps p.tables e below (T67.setTop (mkF m 63 #[iv p13_0, iv lc] [(.ref b48), (.ref b48)])) _
        refine XS.iconst X67.here hx rfl (hb hby d13_63) ?_
        show Steps p.tables e below (T67.setTop (mkF m 64 #[iv p13_0, iv lc] [(.int (3 : Int32)), (.ref b48), (.ref b48)])) _
        refine XS.bipush X67.here hx rfl (hb hby d13_64) ?_
        show Steps p.tables e below (T67.setTop (mkF m 66 #[iv p13_0, iv lc] [(.int (114 : Int32)), (.int (3 : Int32)), (.ref b48), (.ref b48)])) _
        refine st73 _ ?_
        show Steps p.tables e below (T73.setTop (mkF m 67 #[iv p13_0, iv lc] [(.ref b48)])) _
        refine XS.dup X73.here hx rfl (hb hby d13_67) rfl rfl ?_
        show Steps p.tables e below (T73.setTop (mkF m 68 #[iv p13_0, iv lc] [(.ref b48), (.ref b48)])) _
        refine XS.iconst X73.here hx rfl (hb hby d13_68) ?_
        show Steps p.tables e below (T73.setTop (mkF m 69 #[iv p13_0, iv lc] [(.int (4 : Int32)), (.ref b48), (.ref b48)])) _
        refine XS.bipush X73.here hx rfl (hb hby d13_69) ?_
        show Steps p.tables e below (T73.setTop (mkF m 71 #[iv p13_0, iv lc] [(.int (105 : Int32)), (.int (4 : Int32)), (.ref b48), (.ref b48)])) _
        refine st79 _ ?_
        show Steps p.tables e below (T79.setTop (mkF m 72 #[iv p13_0, iv lc] [(.ref b48)])) _
        refine XS.dup X79.here hx rfl (hb hby d13_72) rfl rfl ?_
        show Steps p.tables e below (T79.setTop (mkF m 73 #[iv p13_0, iv lc] [(.ref b48), (.ref b48)])) _
        refine XS.iconst X79.here hx rfl (hb hby d13_73) ?_
        show Steps p.tables e below (T79.setTop (mkF m 74 #[iv p13_0, iv lc] [(.int (5 : Int32)), (.ref b48), (.ref b48)])) _
        refine XS.bipush X79.here hx rfl (hb hby d13_74) ?_
        show Steps p.tables e below (T79.setTop (mkF m 76 #[iv p13_0, iv lc] [(.int (98 : Int32)), (.int (5 : Int32)), (.ref b48), (.ref b48)])) _
        refine st85 _ ?_
        show Steps p.tables e below (T85.setTop (mkF m 77 #[iv p13_0, iv lc] [(.ref b48)])) _
        refine XS.dup X85.here hx rfl (hb hby d13_77) rfl rfl ?_
        show Steps p.tables e below (T85.setTop (mkF m 78 #[iv p13_0, iv lc] [(.ref b48), (.ref b48)])) _
        refine XS.bipush X85.here hx rfl (hb hby d13_78) ?_
        show Steps p.tables e below (T85.setTop (mkF m 80 #[iv p13_0, iv lc] [(.int (6 : Int32)), (.ref b48), (.ref b48)])) _
        refine XS.bipush X85.here hx rfl (hb hby d13_80) ?_
        show Steps p.tables e below (T85.setTop (mkF m 82 #[iv p13_0, iv lc] [(.int (117 : Int32)), (.int (6 : Int32)), (.ref b48), (.ref b48)])) _
        refine st91 _ ?_
        show Steps p.tables e below (T91.setTop (mkF m 83 #[iv p13_0, iv lc] [(.ref b48)])) _
        refine XS.dup X91.here hx rfl (hb hby d13_83) rfl rfl ?_
        show Steps p.tables e below (T91.setTop (mkF m 84 #[iv p13_0, iv lc] [(.ref b48), (.ref b48)])) _
        refine XS.bipush X91.here hx rfl (hb hby d13_84) ?_
        show Steps p.tables e below (T91.setTop (mkF m 86 #[iv p13_0, iv lc] [(.int (7 : Int32)), (.ref b48), (.ref b48)])) _
        refine XS.bipush X91.here hx rfl (hb hby d13_86) ?_
        show Steps p.tables e below (T91.setTop (mkF m 88 #[iv p13_0, iv lc] [(.int (116 : Int32)), (.int (7 : Int32)), (.ref b48), (.ref b48)])) _
        refine st97 _ ?_
        show Steps p.tables e below (T97.setTop (mkF m 89 #[iv p13_0, iv lc] [(.ref b48)])) _
        refine XS.dup X97.here hx rfl (hb hby d13_89) rfl rfl ?_
        show Steps p.tables e below (T97.setTop (mkF m 90 #[iv p13_0, iv lc] [(.ref b48), (.ref b48)])) _
        refine XS.bipush X97.here hx rfl (hb hby d13_90) ?_
        show Steps p.tables e below (T97.setTop (mkF m 92 #[iv p13_0, iv lc] [(.int (8 : Int32)), (.ref b48), (.ref b48)])) _
        refine XS.bipush X97.here hx rfl (hb hby d13_92) ?_
        show Steps p.tables e below (T97.setTop (mkF m 94 #[iv p13_0, iv lc] [(.int (101 : Int32)), (.int (8 : Int32)), (.ref b48), (.ref b48)])) _
        refine st103 _ ?_
        show Steps p.tables e below (T103.setTop (mkF m 95 #[iv p13_0, iv lc] [(.ref b48)])) _
        refine XS.dup X103.here hx rfl (hb hby d13_95) rfl rfl ?_
        show Steps p.tables e below (T103.setTop (mkF m 96 #[iv p13_0, iv lc] [(.ref b48), (.ref b48)])) _
        refine XS.bipush X103.here hx rfl (hb hby d13_96) ?_
        show Steps p.tables e below (T103.setTop (mkF m 98 #[iv p13_0, iv lc] [(.int (9 : Int32)), (.ref b48), (.ref b48)])) _
        refine XS.bipush X103.here hx rfl (hb hby d13_98) ?_
        show Steps p.tables e below (T103.setTop (mkF m 100 #[iv p13_0, iv lc] [(.int (115 : Int32)), (.int (9 : Int32)), (.ref b48), (.ref b48)])) _
        refine st109 _ ?_
        show Steps p.tables e below (T109.setTop (mkF m 101 #[iv p13_0, iv lc] [(.ref b48)])) _
        refine XS.dup X109.here hx rfl (hb hby d13_101) rfl rfl ?_
        show Steps p.tables e below (T109.setTop (mkF m 102 #[iv p13_0, iv lc] [(.ref b48), (.ref b48)])) _
        refine XS.bipush X109.here hx rfl (hb hby d13_102) ?_
        show Steps p.tables e below (T109.setTop (mkF m 104 #[iv p13_0, iv lc] [(.int (10 : Int32)), (.ref b48), (.ref b48)])) _
        refine XS.iloadN X109.here hx rfl (hb hby d13_104) rfl ?_
        show Steps p.tables e below (T109.setTop (mkF m 105 #[iv p13_0, iv lc] [(.int lc), (.int (10 : Int32)), (.ref b48), (.ref b48)])) _
        refine st115 _ ?_
        show Steps p.tables e below (T115.setTop (mkF m 106 #[iv p13_0, iv lc] [(.ref b48)])) _
        show Steps p.tables e below (T115.setTop (mkF m 106 #[iv p13_0, iv lc] [(.ref b48)])) _
        exact retOut X115 hx Bd.returns rfl (Or.inr (Or.inr (Or.inr (Or.inr ⟨rfl, rfl, rfl⟩)))) (hb hby d13_106) hr
      · show Q_rm13 Z _ _ h0 n0 _ T115.heap _
        rw [e115]
        exact ⟨b48, rfl, N118, (K116), bz50, (by rw [show own_long p13_0 lc = [97, 116, 116, 114, 105, 98, 117, 116, 101, 115, lc] from by unfold own_long; rw [if_neg hc1_1, if_pos hc40_46]]; exact f120)⟩
    · skip
      have pre122 : ∀ t, Steps p.tables e below (s₁.setTop (mkF m 109 #[iv p13_0, iv lc] [(.int (2 : Int32)), (.int p13_0)])) t → Steps p.tables e below (s₁.setTop (entryFrame m #[(.int p13_0), (.int lc)] 2)) t := by
        intro t_ k_
        refine pre47 _ ?_
        show Steps p.tables e below (s₁.setTop (mkF m 40 #[iv p13_0, iv lc] [(.int (1 : Int32)), (.int p13_0)])) _
        refine XS.icmpYes X0.here hx rfl (pc0 := 40) (pc' := 107) rfl (hb hby d13_40) rfl (feq hc40_46).2 (by decide) (by decide) ?_
        show Steps p.tables e below (s₁.setTop (mkF m 107 #[iv p13_0, iv lc] [])) _
        refine XS.iloadN X0.here hx rfl (hb hby d13_107) rfl ?_
        show Steps p.tables e below (s₁.setTop (mkF m 108 #[iv p13_0, iv lc] [(.int p13_0)])) _
        refine XS.iconst X0.here hx rfl (hb hby d13_108) ?_
        exact k_
      by_cases hc109_121 : p13_0 = (2 : Int32)
      · skip
        obtain ⟨T123, h123, k123, X123, e123, E123, A123, st123⟩ := newP (aty := .char) X0 hx hZ wo7 e0 (g := (mkF m 114 #[iv p13_0, iv lc] [(.int (6 : Int32))])) rfl (hb hby d13_114) rfl (by decide) (cap := 6) (by decide) (by decide) (by decide) (by decide)
        obtain ⟨b123, gg123⟩ : ∃ z, z = h0.size := ⟨_, rfl⟩
        rw [← gg123] at A123 st123
        have g124 : n0 ≤ b123 := Nat.le_trans Z0 (Nat.le_of_eq gg123.symm)
        have bz125 : h0.size ≤ b123 := Nat.le_trans (Keep.refl h0 []).1 (Nat.le_of_eq gg123.symm)
        have K127 : Keep h0 h123 [] := (Keep.refl h0 []).ext E123
        have f126 : Av Z h123 b123 .char (6 : Int32) [(.int (0 : Int32)), (.int (0 : Int32)), (.int (0 : Int32)), (.int (0 : Int32)), (.int (0 : Int32)), (.int (0 : Int32))] (.int (0 : Int32)) := ⟨_, (Arv.new A123 (by decide)).pad (pad_rep [] (.int (0 : Int32)) 6)⟩
        obtain ⟨kk128, cl128, Ar128, qq128, Sz128, Nn128, Hs128, Gf128⟩ := id f126
        have hin129 : ¬ ((0 : Int32) < 0 ∨ cl128.slots.size ≤ ((0 : Int32)).toNatClampNeg) := inb_of Sz128 ⟨by decide, by decide⟩
        obtain ⟨T130, h130, X130, e130, W130, st130⟩ := stC X123 hx hZ e123 Ar128 (j := (0 : Int32)) hin129 (g := (mkF m 120 #[iv p13_0, iv lc] [(.int (116 : Int32)), (.int (0 : Int32)), (.ref b123), (.ref b123)])) rfl rfl (hb hby d13_120)
        have K131 : Keep h0 h130 [] := (K127).wr W130 (Or.inr bz125)
        have f132 : Av Z h130 b123 .char (6 : Int32) [(.int (116 : Int32)), (.int (0 : Int32)), (.int (0 : Int32)), (.int (0 : Int32)), (.int (0 : Int32)), (.int (0 : Int32))] (.int (0 : Int32)) := ⟨_, Arv.set Ar128 qq128 Sz128 Nn128 Hs128 Gf128 (by first | rfl | exact fits_nar_char _) W130 0 rfl (Nat.le_of_ble_eq_true rfl)⟩
        have N133 := Fr.snoc X130 N0 g124
        obtain ⟨kk134, cl134, Ar134, qq134, Sz134, Nn134, Hs134, Gf134⟩ := id f132
        have hin135 : ¬ ((1 : Int32) < 0 ∨ cl134.slots.size ≤ ((1 : Int32)).toNatClampNeg) := inb_of Sz134 ⟨by decide, by decide⟩
        obtain ⟨T136, h136, X136, e136, W136, st136⟩ := stC X130 hx hZ e130 Ar134 (j := (1 : Int32)) hin135 (g := (mkF m 125 #[iv p13_0, iv lc] [(.int (121 : Int32)), (.int (1 : Int32)), (.ref b123), (.ref b123)])) rfl rfl (hb hby d13_125)
        have K137 : Keep h0 h136 [] := (K131).wr W136 (Or.inr bz125)
        have f138 : Av Z h136 b123 .char (6 : Int32) [(.int (116 : Int32)), (.int (121 : Int32)), (.int (0 : Int32)), (.int (0 : Int32)), (.int (0 : Int32)), (.int (0 : Int32))] (.int (0 : Int32)) := ⟨_, Arv.set Ar134 qq134 Sz134 Nn134 Hs134 Gf134 (by first | rfl | exact fits_nar_char _) W136 1 rfl (Nat.le_of_ble_eq_true rfl)⟩
        have N139 := Fr.snoc X136 N133 g124
        obtain ⟨kk140, cl140, Ar140, qq140, Sz140, Nn140, Hs140, Gf140⟩ := id f138
        have hin141 : ¬ ((2 : Int32) < 0 ∨ cl140.slots.size ≤ ((2 : Int32)).toNatClampNeg) := inb_of Sz140 ⟨by decide, by decide⟩
        obtain ⟨T142, h142, X142, e142, W142, st142⟩ := stC X136 hx hZ e136 Ar140 (j := (2 : Int32)) hin141 (g := (mkF m 130 #[iv p13_0, iv lc] [(.int (112 : Int32)), (.int (2 : Int32)), (.ref b123), (.ref b123)])) rfl rfl (hb hby d13_130)
        have K143 : Keep h0 h142 [] := (K137).wr W142 (Or.inr bz125)
        have f144 : Av Z h142 b123 .char (6 : Int32) [(.int (116 : Int32)), (.int (121 : Int32)), (.int (112 : Int32)), (.int (0 : Int32)), (.int (0 : Int32)), (.int (0 : Int32))] (.int (0 : Int32)) := ⟨_, Arv.set Ar140 qq140 Sz140 Nn140 Hs140 Gf140 (by first | rfl | exact fits_nar_char _) W142 2 rfl (Nat.le_of_ble_eq_true rfl)⟩
        have N145 := Fr.snoc X142 N139 g124
        obtain ⟨kk146, cl146, Ar146, qq146, Sz146, Nn146, Hs146, Gf146⟩ := id f144
        have hin147 : ¬ ((3 : Int32) < 0 ∨ cl146.slots.size ≤ ((3 : Int32)).toNatClampNeg) := inb_of Sz146 ⟨by decide, by decide⟩
        obtain ⟨T148, h148, X148, e148, W148, st148⟩ := stC X142 hx hZ e142 Ar146 (j := (3 : Int32)) hin147 (g := (mkF m 135 #[iv p13_0, iv lc] [(.int (101 : Int32)), (.int (3 : Int32)), (.ref b123), (.ref b123)])) rfl rfl (hb hby d13_135)
        have K149 : Keep h0 h148 [] := (K143).wr W148 (Or.inr bz125)
        have f150 : Av Z h148 b123 .char (6 : Int32) [(.int (116 : Int32)), (.int (121 : Int32)), (.int (112 : Int32)), (.int (101 : Int32)), (.int (0 : Int32)), (.int (0 : Int32))] (.int (0 : Int32)) := ⟨_, Arv.set Ar146 qq146 Sz146 Nn146 Hs146 Gf146 (by first | rfl | exact fits_nar_char _) W148 3 rfl (Nat.le_of_ble_eq_true rfl)⟩
        have N151 := Fr.snoc X148 N145 g124
        obtain ⟨kk152, cl152, Ar152, qq152, Sz152, Nn152, Hs152, Gf152⟩ := id f150
        have hin153 : ¬ ((4 : Int32) < 0 ∨ cl152.slots.size ≤ ((4 : Int32)).toNatClampNeg) := inb_of Sz152 ⟨by decide, by decide⟩
        obtain ⟨T154, h154, X154, e154, W154, st154⟩ := stC X148 hx hZ e148 Ar152 (j := (4 : Int32)) hin153 (g := (mkF m 140 #[iv p13_0, iv lc] [(.int (115 : Int32)), (.int (4 : Int32)), (.ref b123), (.ref b123)])) rfl rfl (hb hby d13_140)
        have K155 : Keep h0 h154 [] := (K149).wr W154 (Or.inr bz125)
        have f156 : Av Z h154 b123 .char (6 : Int32) [(.int (116 : Int32)), (.int (121 : Int32)), (.int (112 : Int32)), (.int (101 : Int32)), (.int (115 : Int32)), (.int (0 : Int32))] (.int (0 : Int32)) := ⟨_, Arv.set Ar152 qq152 Sz152 Nn152 Hs152 Gf152 (by first | rfl | exact fits_nar_char _) W154 4 rfl (Nat.le_of_ble_eq_true rfl)⟩
        have N157 := Fr.snoc X154 N151 g124
        obtain ⟨kk158, cl158, Ar158, qq158, Sz158, Nn158, Hs158, Gf158⟩ := id f156
        have hin159 : ¬ ((5 : Int32) < 0 ∨ cl158.slots.size ≤ ((5 : Int32)).toNatClampNeg) := inb_of Sz158 ⟨by decide, by decide⟩
        obtain ⟨T160, h160, X160, e160, W160, st160⟩ := stC X154 hx hZ e154 Ar158 (j := (5 : Int32)) hin159 (g := (mkF m 144 #[iv p13_0, iv lc] [(.int lc), (.int (5 : Int32)), (.ref b123), (.ref b123)])) rfl rfl (hb hby d13_144)
        have K161 : Keep h0 h160 [] := (K155).wr W160 (Or.inr bz125)
        have f162 : Av Z h160 b123 .char (6 : Int32) [(.int (116 : Int32)), (.int (121 : Int32)), (.int (112 : Int32)), (.int (101 : Int32)), (.int (115 : Int32)), (.int (nar .char lc))] (.int (0 : Int32)) := ⟨_, Arv.set Ar158 qq158 Sz158 Nn158 Hs158 Gf158 (by first | rfl | exact fits_nar_char _) W160 5 rfl (Nat.le_of_ble_eq_true rfl)⟩
        have N163 := Fr.snoc X160 N157 g124
        have q164 : (nar .char lc) = lc := own_narc hrc
        have f165 : Av Z h160 b123 .char (6 : Int32) [(.int (116 : Int32)), (.int (121 : Int32)), (.int (112 : Int32)), (.int (101 : Int32)), (.int (115 : Int32)), (.int lc)] (.int (0 : Int32)) := by rw [← q164]; exact f162
        obtain ⟨fs, hr, hrun, hended, hW, hsame⟩ := X160.leave (v := some (.ref b123)) (fun h => by rw [Bd.returns] at h; cases h)
        refine ⟨_, _, pre122 _ ?_, hrun, hended, _, _, rfl, ?_, ⟨_, rfl⟩, hW, hsame.mono (by decide) (by decide)⟩
        · show Steps p.tables e below (s₁.setTop (mkF m 109 #[iv p13_0, iv lc] [(.int (2 : Int32)), (.int p13_0)])) _
          refine XS.icmpNo X0.here hx rfl (hb hby d13_109) rfl (teq hc109_121).2 ?_
          show Steps p.tables e below (s₁.setTop (mkF m 112 #[iv p13_0, iv lc] [])) _
          refine XS.bipush X0.here hx rfl (hb hby d13_112) ?_
          show Steps p.tables e below (s₁.setTop (mkF m 114 #[iv p13_0, iv lc] [(.int (6 : Int32))])) _
          refine st123 _ ?_
          show Steps p.tables e below (T123.setTop (mkF m 116 #[iv p13_0, iv lc] [(.ref b123)])) _
          refine XS.dup X123.here hx rfl (hb hby d13_116) rfl rfl ?_
          show Steps p.tables e below (T123.setTop (mkF m 117 #[iv p13_0, iv lc] [(.ref b123), (.ref b123)])) _
          refine XS.iconst X123.here hx rfl (hb hby d13_117) ?_
          show Steps p.tables e below (T123.setTop (mkF m 118 #[iv p13_0, iv lc] [(.int (0 : Int32)), (.ref b123), (.ref b123)])) _
          refine XS.bipush X123.here hx rfl (hb hby d13_118) ?_
          show Steps p.tables e below (T123.setTop (mkF m 120 #[iv p13_0, iv lc] [(.int (116 : Int32)), (.int (0 : Int32)), (.ref b123), (.ref b123)])) _
          refine st130 _ ?_
          show Steps p.tables e below (T130.setTop (mkF m 121 #[iv p13_0, iv lc] [(.ref b123)])) _
          refine XS.dup X130.here hx rfl (hb hby d13_121) rfl rfl ?_
          show Steps p.tables e below (T130.setTop (mkF m 122 #[iv p13_0, iv lc] [(.ref b123), (.ref b123)])) _
          refine XS.iconst X130.here hx rfl (hb hby d13_122) ?_
          show Steps p.tables e below (T130.setTop (mkF m 123 #[iv p13_0, iv lc] [(.int (1 : Int32)), (.ref b123), (.ref b123)])) _
          refine XS.bipush X130.here hx rfl (hb hby d13_123) ?_
          show Steps p.tables e below (T130.setTop (mkF m 125 #[iv p13_0, iv lc] [(.int (121 : Int32)), (.int (1 : Int32)), (.ref b123), (.ref b123)])) _
          refine st136 _ ?_
          show Steps p.tables e below (T136.setTop (mkF m 126 #[iv p13_0, iv lc] [(.ref b123)])) _
          refine XS.dup X136.here hx rfl (hb hby d13_126) rfl rfl ?_
          show Steps p.tables e below (T136.setTop (mkF m 127 #[iv p13_0, iv lc] [(.ref b123), (.ref b123)])) _
          refine XS.iconst X136.here hx rfl (hb hby d13_127) ?_
          show Steps p.tables e below (T136.setTop (mkF m 128 #[iv p13_0, iv lc] [(.int (2 : Int32)), (.ref b123), (.ref b123)])) _
          refine XS.bipush X136.here hx rfl (hb hby d13_128) ?_
          show Steps p.tables e below (T136.setTop (mkF m 130 #[iv p13_0, iv lc] [(.int (112 : Int32)), (.int (2 : Int32)), (.ref b123), (.ref b123)])) _
          refine st142 _ ?_
          show Steps p.tables e below (T142.setTop (mkF m 131 #[iv p13_0, iv lc] [(.ref b123)])) _
          refine XS.dup X142.here hx rfl (hb hby d13_131) rfl rfl ?_
          show Steps p.tables e below (T142.setTop (mkF m 132 #[iv p13_0, iv lc] [(.ref b123), (.ref b123)])) _
          refine XS.iconst X142.here hx rfl (hb hby d13_132) ?_
          show Steps p.tables e below (T142.setTop (mkF m 133 #[iv p13_0, iv lc] [(.int (3 : Int32)), (.ref b123), (.ref b123)])) _
          refine XS.bipush X142.here hx rfl (hb hby d13_133) ?_
          show Steps p.tables e below (T142.setTop (mkF m 135 #[iv p13_0, iv lc] [(.int (101 : Int32)), (.int (3 : Int32)), (.ref b123), (.ref b123)])) _
          refine st148 _ ?_
          show Steps p.tables e below (T148.setTop (mkF m 136 #[iv p13_0, iv lc] [(.ref b123)])) _
          refine XS.dup X148.here hx rfl (hb hby d13_136) rfl rfl ?_
          show Steps p.tables e below (T148.setTop (mkF m 137 #[iv p13_0, iv lc] [(.ref b123), (.ref b123)])) _
          refine XS.iconst X148.here hx rfl (hb hby d13_137) ?_
          show Steps p.tables e below (T148.setTop (mkF m 138 #[iv p13_0, iv lc] [(.int (4 : Int32)), (.ref b123), (.ref b123)])) _
          refine XS.bipush X148.here hx rfl (hb hby d13_138) ?_
          show Steps p.tables e below (T148.setTop (mkF m 140 #[iv p13_0, iv lc] [(.int (115 : Int32)), (.int (4 : Int32)), (.ref b123), (.ref b123)])) _
          refine st154 _ ?_
          show Steps p.tables e below (T154.setTop (mkF m 141 #[iv p13_0, iv lc] [(.ref b123)])) _
          refine XS.dup X154.here hx rfl (hb hby d13_141) rfl rfl ?_
          show Steps p.tables e below (T154.setTop (mkF m 142 #[iv p13_0, iv lc] [(.ref b123), (.ref b123)])) _
          refine XS.iconst X154.here hx rfl (hb hby d13_142) ?_
          show Steps p.tables e below (T154.setTop (mkF m 143 #[iv p13_0, iv lc] [(.int (5 : Int32)), (.ref b123), (.ref b123)])) _
          refine XS.iloadN X154.here hx rfl (hb hby d13_143) rfl ?_
          show Steps p.tables e below (T154.setTop (mkF m 144 #[iv p13_0, iv lc] [(.int lc), (.int (5 : Int32)), (.ref b123), (.ref b123)])) _
          refine st160 _ ?_
          show Steps p.tables e below (T160.setTop (mkF m 145 #[iv p13_0, iv lc] [(.ref b123)])) _
          show Steps p.tables e below (T160.setTop (mkF m 145 #[iv p13_0, iv lc] [(.ref b123)])) _
          exact retOut X160 hx Bd.returns rfl (Or.inr (Or.inr (Or.inr (Or.inr ⟨rfl, rfl, rfl⟩)))) (hb hby d13_145) hr
        · show Q_rm13 Z _ _ h0 n0 _ T160.heap _
          rw [e160]
          exact ⟨b123, rfl, N163, (K161), bz125, (by rw [show own_long p13_0 lc = [116, 121, 112, 101, 115, lc] from by unfold own_long; rw [if_neg hc1_1, if_neg hc40_46, if_pos hc109_121]]; exact f165)⟩
      · skip
        obtain ⟨T166, h166, k166, X166, e166, E166, A166, st166⟩ := newP (aty := .char) X0 hx hZ wo7 e0 (g := (mkF m 148 #[iv p13_0, iv lc] [(.int (6 : Int32))])) rfl (hb hby d13_148) rfl (by decide) (cap := 6) (by decide) (by decide) (by decide) (by decide)
        obtain ⟨b166, gg166⟩ : ∃ z, z = h0.size := ⟨_, rfl⟩
        rw [← gg166] at A166 st166
        have g167 : n0 ≤ b166 := Nat.le_trans Z0 (Nat.le_of_eq gg166.symm)
        have bz168 : h0.size ≤ b166 := Nat.le_trans (Keep.refl h0 []).1 (Nat.le_of_eq gg166.symm)
        have K170 : Keep h0 h166 [] := (Keep.refl h0 []).ext E166
        have f169 : Av Z h166 b166 .char (6 : Int32) [(.int (0 : Int32)), (.int (0 : Int32)), (.int (0 : Int32)), (.int (0 : Int32)), (.int (0 : Int32)), (.int (0 : Int32))] (.int (0 : Int32)) := ⟨_, (Arv.new A166 (by decide)).pad (pad_rep [] (.int (0 : Int32)) 6)⟩
        obtain ⟨kk171, cl171, Ar171, qq171, Sz171, Nn171, Hs171, Gf171⟩ := id f169
        have hin172 : ¬ ((0 : Int32) < 0 ∨ cl171.slots.size ≤ ((0 : Int32)).toNatClampNeg) := inb_of Sz171 ⟨by decide, by decide⟩
        obtain ⟨T173, h173, X173, e173, W173, st173⟩ := stC X166 hx hZ e166 Ar171 (j := (0 : Int32)) hin172 (g := (mkF m 154 #[iv p13_0, iv lc] [(.int (108 : Int32)), (.int (0 : Int32)), (.ref b166), (.ref b166)])) rfl rfl (hb hby d13_154)
        have K174 : Keep h0 h173 [] := (K170).wr W173 (Or.inr bz168)
        have f175 : Av Z h173 b166 .char (6 : Int32) [(.int (108 : Int32)), (.int (0 : Int32)), (.int (0 : Int32)), (.int (0 : Int32)), (.int (0 : Int32)), (.int (0 : Int32))] (.int (0 : Int32)) := ⟨_, Arv.set Ar171 qq171 Sz171 Nn171 Hs171 Gf171 (by first | rfl | exact fits_nar_char _) W173 0 rfl (Nat.le_of_ble_eq_true rfl)⟩
        have N176 := Fr.snoc X173 N0 g167
        obtain ⟨kk177, cl177, Ar177, qq177, Sz177, Nn177, Hs177, Gf177⟩ := id f175
        have hin178 : ¬ ((1 : Int32) < 0 ∨ cl177.slots.size ≤ ((1 : Int32)).toNatClampNeg) := inb_of Sz177 ⟨by decide, by decide⟩
        obtain ⟨T179, h179, X179, e179, W179, st179⟩ := stC X173 hx hZ e173 Ar177 (j := (1 : Int32)) hin178 (g := (mkF m 159 #[iv p13_0, iv lc] [(.int (105 : Int32)), (.int (1 : Int32)), (.ref b166), (.ref b166)])) rfl rfl (hb hby d13_159)
        have K180 : Keep h0 h179 [] := (K174).wr W179 (Or.inr bz168)
        have f181 : Av Z h179 b166 .char (6 : Int32) [(.int (108 : Int32)), (.int (105 : Int32)), (.int (0 : Int32)), (.int (0 : Int32)), (.int (0 : Int32)), (.int (0 : Int32))] (.int (0 : Int32)) := ⟨_, Arv.set Ar177 qq177 Sz177 Nn177 Hs177 Gf177 (by first | rfl | exact fits_nar_char _) W179 1 rfl (Nat.le_of_ble_eq_true rfl)⟩
        have N182 := Fr.snoc X179 N176 g167
        obtain ⟨kk183, cl183, Ar183, qq183, Sz183, Nn183, Hs183, Gf183⟩ := id f181
        have hin184 : ¬ ((2 : Int32) < 0 ∨ cl183.slots.size ≤ ((2 : Int32)).toNatClampNeg) := inb_of Sz183 ⟨by decide, by decide⟩
        obtain ⟨T185, h185, X185, e185, W185, st185⟩ := stC X179 hx hZ e179 Ar183 (j := (2 : Int32)) hin184 (g := (mkF m 164 #[iv p13_0, iv lc] [(.int (110 : Int32)), (.int (2 : Int32)), (.ref b166), (.ref b166)])) rfl rfl (hb hby d13_164)
        have K186 : Keep h0 h185 [] := (K180).wr W185 (Or.inr bz168)
        have f187 : Av Z h185 b166 .char (6 : Int32) [(.int (108 : Int32)), (.int (105 : Int32)), (.int (110 : Int32)), (.int (0 : Int32)), (.int (0 : Int32)), (.int (0 : Int32))] (.int (0 : Int32)) := ⟨_, Arv.set Ar183 qq183 Sz183 Nn183 Hs183 Gf183 (by first | rfl | exact fits_nar_char _) W185 2 rfl (Nat.le_of_ble_eq_true rfl)⟩
        have N188 := Fr.snoc X185 N182 g167
        obtain ⟨kk189, cl189, Ar189, qq189, Sz189, Nn189, Hs189, Gf189⟩ := id f187
        have hin190 : ¬ ((3 : Int32) < 0 ∨ cl189.slots.size ≤ ((3 : Int32)).toNatClampNeg) := inb_of Sz189 ⟨by decide, by decide⟩
        obtain ⟨T191, h191, X191, e191, W191, st191⟩ := stC X185 hx hZ e185 Ar189 (j := (3 : Int32)) hin190 (g := (mkF m 169 #[iv p13_0, iv lc] [(.int (107 : Int32)), (.int (3 : Int32)), (.ref b166), (.ref b166)])) rfl rfl (hb hby d13_169)
        have K192 : Keep h0 h191 [] := (K186).wr W191 (Or.inr bz168)
        have f193 : Av Z h191 b166 .char (6 : Int32) [(.int (108 : Int32)), (.int (105 : Int32)), (.int (110 : Int32)), (.int (107 : Int32)), (.int (0 : Int32)), (.int (0 : Int32))] (.int (0 : Int32)) := ⟨_, Arv.set Ar189 qq189 Sz189 Nn189 Hs189 Gf189 (by first | rfl | exact fits_nar_char _) W191 3 rfl (Nat.le_of_ble_eq_true rfl)⟩
        have N194 := Fr.snoc X191 N188 g167
        obtain ⟨kk195, cl195, Ar195, qq195, Sz195, Nn195, Hs195, Gf195⟩ := id f193
        have hin196 : ¬ ((4 : Int32) < 0 ∨ cl195.slots.size ≤ ((4 : Int32)).toNatClampNeg) := inb_of Sz195 ⟨by decide, by decide⟩
        obtain ⟨T197, h197, X197, e197, W197, st197⟩ := stC X191 hx hZ e191 Ar195 (j := (4 : Int32)) hin196 (g := (mkF m 174 #[iv p13_0, iv lc] [(.int (115 : Int32)), (.int (4 : Int32)), (.ref b166), (.ref b166)])) rfl rfl (hb hby d13_174)
        have K198 : Keep h0 h197 [] := (K192).wr W197 (Or.inr bz168)
        have f199 : Av Z h197 b166 .char (6 : Int32) [(.int (108 : Int32)), (.int (105 : Int32)), (.int (110 : Int32)), (.int (107 : Int32)), (.int (115 : Int32)), (.int (0 : Int32))] (.int (0 : Int32)) := ⟨_, Arv.set Ar195 qq195 Sz195 Nn195 Hs195 Gf195 (by first | rfl | exact fits_nar_char _) W197 4 rfl (Nat.le_of_ble_eq_true rfl)⟩
        have N200 := Fr.snoc X197 N194 g167
        obtain ⟨kk201, cl201, Ar201, qq201, Sz201, Nn201, Hs201, Gf201⟩ := id f199
        have hin202 : ¬ ((5 : Int32) < 0 ∨ cl201.slots.size ≤ ((5 : Int32)).toNatClampNeg) := inb_of Sz201 ⟨by decide, by decide⟩
        obtain ⟨T203, h203, X203, e203, W203, st203⟩ := stC X197 hx hZ e197 Ar201 (j := (5 : Int32)) hin202 (g := (mkF m 178 #[iv p13_0, iv lc] [(.int lc), (.int (5 : Int32)), (.ref b166), (.ref b166)])) rfl rfl (hb hby d13_178)
        have K204 : Keep h0 h203 [] := (K198).wr W203 (Or.inr bz168)
        have f205 : Av Z h203 b166 .char (6 : Int32) [(.int (108 : Int32)), (.int (105 : Int32)), (.int (110 : Int32)), (.int (107 : Int32)), (.int (115 : Int32)), (.int (nar .char lc))] (.int (0 : Int32)) := ⟨_, Arv.set Ar201 qq201 Sz201 Nn201 Hs201 Gf201 (by first | rfl | exact fits_nar_char _) W203 5 rfl (Nat.le_of_ble_eq_true rfl)⟩
        have N206 := Fr.snoc X203 N200 g167
        have q207 : (nar .char lc) = lc := own_narc hrc
        have f208 : Av Z h203 b166 .char (6 : Int32) [(.int (108 : Int32)), (.int (105 : Int32)), (.int (110 : Int32)), (.int (107 : Int32)), (.int (115 : Int32)), (.int lc)] (.int (0 : Int32)) := by rw [← q207]; exact f205
        obtain ⟨fs, hr, hrun, hended, hW, hsame⟩ := X203.leave (v := some (.ref b166)) (fun h => by rw [Bd.returns] at h; cases h)
        refine ⟨_, _, pre122 _ ?_, hrun, hended, _, _, rfl, ?_, ⟨_, rfl⟩, hW, hsame.mono (by decide) (by decide)⟩
        · show Steps p.tables e below (s₁.setTop (mkF m 109 #[iv p13_0, iv lc] [(.int (2 : Int32)), (.int p13_0)])) _
          refine XS.icmpYes X0.here hx rfl (pc0 := 109) (pc' := 146) rfl (hb hby d13_109) rfl (feq hc109_121).2 (by decide) (by decide) ?_
          show Steps p.tables e below (s₁.setTop (mkF m 146 #[iv p13_0, iv lc] [])) _
          refine XS.bipush X0.here hx rfl (hb hby d13_146) ?_
          show Steps p.tables e below (s₁.setTop (mkF m 148 #[iv p13_0, iv lc] [(.int (6 : Int32))])) _
          refine st166 _ ?_
          show Steps p.tables e below (T166.setTop (mkF m 150 #[iv p13_0, iv lc] [(.ref b166)])) _
          refine XS.dup X166.here hx rfl (hb hby d13_150) rfl rfl ?_
          show Steps p.tables e below (T166.setTop (mkF m 151 #[iv p13_0, iv lc] [(.ref b166), (.ref b166)])) _
          refine XS.iconst X166.here hx rfl (hb hby d13_151) ?_
          show Steps p.tables e below (T166.setTop (mkF m 152 #[iv p13_0, iv lc] [(.int (0 : Int32)), (.ref b166), (.ref b166)])) _
          refine XS.bipush X166.here hx rfl (hb hby d13_152) ?_
          show Steps p.tables e below (T166.setTop (mkF m 154 #[iv p13_0, iv lc] [(.int (108 : Int32)), (.int (0 : Int32)), (.ref b166), (.ref b166)])) _
          refine st173 _ ?_
          show Steps p.tables e below (T173.setTop (mkF m 155 #[iv p13_0, iv lc] [(.ref b166)])) _
          refine XS.dup X173.here hx rfl (hb hby d13_155) rfl rfl ?_
          show Steps p.tables e below (T173.setTop (mkF m 156 #[iv p13_0, iv lc] [(.ref b166), (.ref b166)])) _
          refine XS.iconst X173.here hx rfl (hb hby d13_156) ?_
          show Steps p.tables e below (T173.setTop (mkF m 157 #[iv p13_0, iv lc] [(.int (1 : Int32)), (.ref b166), (.ref b166)])) _
          refine XS.bipush X173.here hx rfl (hb hby d13_157) ?_
          show Steps p.tables e below (T173.setTop (mkF m 159 #[iv p13_0, iv lc] [(.int (105 : Int32)), (.int (1 : Int32)), (.ref b166), (.ref b166)])) _
          refine st179 _ ?_
          show Steps p.tables e below (T179.setTop (mkF m 160 #[iv p13_0, iv lc] [(.ref b166)])) _
          refine XS.dup X179.here hx rfl (hb hby d13_160) rfl rfl ?_
          show Steps p.tables e below (T179.setTop (mkF m 161 #[iv p13_0, iv lc] [(.ref b166), (.ref b166)])) _
          refine XS.iconst X179.here hx rfl (hb hby d13_161) ?_
          show Steps p.tables e below (T179.setTop (mkF m 162 #[iv p13_0, iv lc] [(.int (2 : Int32)), (.ref b166), (.ref b166)])) _
          refine XS.bipush X179.here hx rfl (hb hby d13_162) ?_
          show Steps p.tables e below (T179.setTop (mkF m 164 #[iv p13_0, iv lc] [(.int (110 : Int32)), (.int (2 : Int32)), (.ref b166), (.ref b166)])) _
          refine st185 _ ?_
          show Steps p.tables e below (T185.setTop (mkF m 165 #[iv p13_0, iv lc] [(.ref b166)])) _
          refine XS.dup X185.here hx rfl (hb hby d13_165) rfl rfl ?_
          show Steps p.tables e below (T185.setTop (mkF m 166 #[iv p13_0, iv lc] [(.ref b166), (.ref b166)])) _
          refine XS.iconst X185.here hx rfl (hb hby d13_166) ?_
          show Steps p.tables e below (T185.setTop (mkF m 167 #[iv p13_0, iv lc] [(.int (3 : Int32)), (.ref b166), (.ref b166)])) _
          refine XS.bipush X185.here hx rfl (hb hby d13_167) ?_
          show Steps p.tables e below (T185.setTop (mkF m 169 #[iv p13_0, iv lc] [(.int (107 : Int32)), (.int (3 : Int32)), (.ref b166), (.ref b166)])) _
          refine st191 _ ?_
          show Steps p.tables e below (T191.setTop (mkF m 170 #[iv p13_0, iv lc] [(.ref b166)])) _
          refine XS.dup X191.here hx rfl (hb hby d13_170) rfl rfl ?_
          show Steps p.tables e below (T191.setTop (mkF m 171 #[iv p13_0, iv lc] [(.ref b166), (.ref b166)])) _
          refine XS.iconst X191.here hx rfl (hb hby d13_171) ?_
          show Steps p.tables e below (T191.setTop (mkF m 172 #[iv p13_0, iv lc] [(.int (4 : Int32)), (.ref b166), (.ref b166)])) _
          refine XS.bipush X191.here hx rfl (hb hby d13_172) ?_
          show Steps p.tables e below (T191.setTop (mkF m 174 #[iv p13_0, iv lc] [(.int (115 : Int32)), (.int (4 : Int32)), (.ref b166), (.ref b166)])) _
          refine st197 _ ?_
          show Steps p.tables e below (T197.setTop (mkF m 175 #[iv p13_0, iv lc] [(.ref b166)])) _
          refine XS.dup X197.here hx rfl (hb hby d13_175) rfl rfl ?_
          show Steps p.tables e below (T197.setTop (mkF m 176 #[iv p13_0, iv lc] [(.ref b166), (.ref b166)])) _
          refine XS.iconst X197.here hx rfl (hb hby d13_176) ?_
          show Steps p.tables e below (T197.setTop (mkF m 177 #[iv p13_0, iv lc] [(.int (5 : Int32)), (.ref b166), (.ref b166)])) _
          refine XS.iloadN X197.here hx rfl (hb hby d13_177) rfl ?_
          show Steps p.tables e below (T197.setTop (mkF m 178 #[iv p13_0, iv lc] [(.int lc), (.int (5 : Int32)), (.ref b166), (.ref b166)])) _
          refine st203 _ ?_
          show Steps p.tables e below (T203.setTop (mkF m 179 #[iv p13_0, iv lc] [(.ref b166)])) _
          show Steps p.tables e below (T203.setTop (mkF m 179 #[iv p13_0, iv lc] [(.ref b166)])) _
          exact retOut X203 hx Bd.returns rfl (Or.inr (Or.inr (Or.inr (Or.inr ⟨rfl, rfl, rfl⟩)))) (hb hby d13_179) hr
        · show Q_rm13 Z _ _ h0 n0 _ T203.heap _
          rw [e203]
          exact ⟨b166, rfl, N206, (K204), bz168, (by rw [show own_long p13_0 lc = [108, 105, 110, 107, 115, lc] from by unfold own_long; rw [if_neg hc1_1, if_neg hc40_46, if_neg hc109_121]]; exact f208)⟩
theorem d15_0 : decode jdk_43_method_3_code 0 = .ok (.iload_n 0, 1) := by decide +kernel
theorem d15_1 : decode jdk_43_method_3_code 1 = .ok (.sipush 255, 3) := by decide +kernel
theorem d15_4 : decode jdk_43_method_3_code 4 = .ok (.if_icmp .gt 7, 3) := by decide +kernel
theorem d15_7 : decode jdk_43_method_3_code 7 = .ok (.iconst 1, 1) := by decide +kernel
theorem d15_8 : decode jdk_43_method_3_code 8 = .ok (.goto 4, 3) := by decide +kernel
theorem d15_12 : decode jdk_43_method_3_code 12 = .ok (.ireturn, 1) := by decide +kernel
theorem pn_java_lang_StringLatin1 : plainName "java/lang/StringLatin1" = true := by first | (simp [plainName, overriddenIn]; done) | decide +kernel
theorem ef_rm15 (m : MethodId) (x0 : Int32) : entryFrame m #[(.int x0)] 1 = mkF m 0 #[iv x0] [] := by first | (simp [entryFrame, mkF, argsToLocals, Value.category]; done) | rfl
def Q_rm15 (Z : State) (p15_0 : Int32) (h0 : Heap) (n0 : Nat) (v : Option Value) (h : Heap) (L : List Loc) : Prop := v = some (.int (1 : Int32)) ∧ Fr n0 L ∧ h = h0
set_option maxRecDepth 65536 in
set_option maxHeartbeats 40000000 in
theorem rm15 (l : Launch) (Z : State) (a0 : Array Value) (hw : ∀ d ∈ tables_1, d.before a0 Z = true) (ws : List Jvm.Cond) (p15_0 : Int32) (h0 : Heap) (n0 : Nat) (Z0 : n0 ≤ h0.size) (hle : ¬ p15_0 < 0 ∧ ¬ (255 : Int32) < p15_0) :
    MetFree l (⟨"java/lang/StringLatin1", "canEncode", "(C)Z"⟩ : MethodName) (head1 (Jvm.Cond.code (⟨"java/lang/StringLatin1", "canEncode", "(C)Z"⟩ : MethodName) jdk_43_method_3_code 1 (some .boolean) :: ws) ({ frames := 0, cells := 0, slots := 0, locals := 0 } : Room)) (fun a U => a = #[(.int p15_0)] ∧ Z.Warmed39 U.vm ∧ U.heap = h0) (fun _ _ _ _ _ => True) (fun _ U o U' => ∃ v L, o = .returned v ∧ Q_rm15 Z p15_0 h0 n0 v U'.heap L ∧ FrameEnd U o U' L ({ frames := 0, cells := 0, slots := 0, locals := 0 } : Room).cells ({ frames := 0, cells := 0, slots := 0, locals := 0 } : Room).slots) := by
  refine MetFree.of_bodySF (plainFor_of_name pn_java_lang_StringLatin1) hisR ?_
  intro p e s m args below meth c s₁ Bd hml0 hP hK
  obtain ⟨rfl, hZ, hh⟩ := hP
  have hx := Bd.exec
  have hby := Bd.bytes
  have hml : c.maxLocals = 1 := hml0
  have hown : s.vm.findClass "java/lang/StringLatin1" = some m.cls := findClass_of_methodNamed Bd.named
  have hnm := (name_of_methodNamed Bd.named Bd.method).1
  have X0 : Stand p l e ({ frames := 0, cells := 0, slots := 0, locals := 0 } : Room) s m #[(.int p15_0)] below meth c s₁ [] 0 0 := Stand.of_body Bd
  have e0 : s₁.heap = h0 := by rw [← hh, Bd.state]; rfl
  have N0 := Fr.nil n0
  have pre0 : ∀ t, Steps p.tables e below (s₁.setTop (mkF m 0 #[iv p15_0] [])) t → Steps p.tables e below (s₁.setTop (entryFrame m #[(.int p15_0)] 1)) t := fun t k => castTop (ef_rm15 m p15_0) k
  have hc1 : ¬ ((255 : Int32) < p15_0) := hle.2
  obtain ⟨fs, hr, hrun, hended, hW, hsame⟩ := X0.leave (v := some (.int (1 : Int32))) (fun h => by rw [Bd.returns] at h; cases h)
  refine ⟨_, _, pre0 _ ?_, hrun, hended, _, _, rfl, ?_, ⟨_, rfl⟩, hW, hsame.mono (by decide) (by decide)⟩
  · show Steps p.tables e below (s₁.setTop (mkF m 0 #[iv p15_0] [])) _
    refine XS.iloadN X0.here hx rfl (hb hby d15_0) rfl ?_
    show Steps p.tables e below (s₁.setTop (mkF m 1 #[iv p15_0] [(.int p15_0)])) _
    refine XS.sipush X0.here hx rfl (hb hby d15_1) ?_
    show Steps p.tables e below (s₁.setTop (mkF m 4 #[iv p15_0] [(.int (255 : Int32)), (.int p15_0)])) _
    refine XS.icmpNo X0.here hx rfl (hb hby d15_4) rfl (flt hc1).2.2.1 ?_
    show Steps p.tables e below (s₁.setTop (mkF m 7 #[iv p15_0] [])) _
    refine XS.iconst X0.here hx rfl (hb hby d15_7) ?_
    show Steps p.tables e below (s₁.setTop (mkF m 8 #[iv p15_0] [(.int (1 : Int32))])) _
    refine XS.goto X0.here hx rfl (pc0 := 8) (pc' := 12) rfl (hb hby d15_8) (by decide) (by decide) ?_
    show Steps p.tables e below (s₁.setTop (mkF m 12 #[iv p15_0] [(.int (1 : Int32))])) _
    exact retN X0 hx (t := .boolean) Bd.returns (by simp) (hb hby d15_12) hr
  · show Q_rm15 Z _ h0 n0 _ s₁.heap _
    rw [e0]
    exact ⟨rfl, N0, rfl⟩
theorem d16_0 : decode jdk_43_method_46_code 0 = .ok (.iconst 1, 1) := by decide +kernel
theorem d16_1 : decode jdk_43_method_46_code 1 = .ok (.newarray .byte, 2) := by decide +kernel
theorem d16_3 : decode jdk_43_method_46_code 3 = .ok (.dup, 1) := by decide +kernel
theorem d16_4 : decode jdk_43_method_46_code 4 = .ok (.iconst 0, 1) := by decide +kernel
theorem d16_5 : decode jdk_43_method_46_code 5 = .ok (.iload_n 0, 1) := by decide +kernel
theorem d16_6 : decode jdk_43_method_46_code 6 = .ok (.i2b, 1) := by decide +kernel
theorem d16_7 : decode jdk_43_method_46_code 7 = .ok (.bastore, 1) := by decide +kernel
theorem d16_8 : decode jdk_43_method_46_code 8 = .ok (.areturn, 1) := by decide +kernel
theorem ef_rm16 (m : MethodId) (x0 : Int32) : entryFrame m #[(.int x0)] 1 = mkF m 0 #[iv x0] [] := by first | (simp [entryFrame, mkF, argsToLocals, Value.category]; done) | rfl
def Q_rm16 (Z : State) (p16_0 : Int32) (h0 : Heap) (n0 : Nat) (v : Option Value) (h : Heap) (L : List Loc) : Prop := ∃ (b : Addr), v = some (.ref b) ∧ Fr n0 L ∧ Keep h0 h [] ∧ (h0.size ≤ b) ∧ (Av Z h b .byte (1 : Int32) (own_vs [p16_0]) (.int (0 : Int32)))
set_option maxRecDepth 65536 in
set_option maxHeartbeats 40000000 in
theorem rm16 (l : Launch) (Z : State) (a0 : Array Value) (hw : ∀ d ∈ tables_1, d.before a0 Z = true) (ws : List Jvm.Cond) (p16_0 : Int32) (h0 : Heap) (n0 : Nat) (Z0 : n0 ≤ h0.size) :
    MetFree l (⟨"java/lang/StringLatin1", "toBytes", "(C)[B"⟩ : MethodName) (head1 (Jvm.Cond.code (⟨"java/lang/StringLatin1", "toBytes", "(C)[B"⟩ : MethodName) jdk_43_method_46_code 1 (some (.array .byte)) :: ws) ({ frames := 0, cells := 1, slots := 1, locals := 0 } : Room)) (fun a U => a = #[(.int p16_0)] ∧ Z.Warmed39 U.vm ∧ U.heap = h0) (fun _ _ _ _ _ => True) (fun _ U o U' => ∃ v L, o = .returned v ∧ Q_rm16 Z p16_0 h0 n0 v U'.heap L ∧ FrameEnd U o U' L ({ frames := 0, cells := 1, slots := 1, locals := 0 } : Room).cells ({ frames := 0, cells := 1, slots := 1, locals := 0 } : Room).slots) := by
  refine MetFree.of_bodySF (plainFor_of_name pn_java_lang_StringLatin1) hisR ?_
  intro p e s m args below meth c s₁ Bd hml0 hP hK
  obtain ⟨rfl, hZ, hh⟩ := hP
  have hx := Bd.exec
  have hby := Bd.bytes
  have hml : c.maxLocals = 1 := hml0
  have hown : s.vm.findClass "java/lang/StringLatin1" = some m.cls := findClass_of_methodNamed Bd.named
  have hnm := (name_of_methodNamed Bd.named Bd.method).1
  have X0 : Stand p l e ({ frames := 0, cells := 1, slots := 1, locals := 0 } : Room) s m #[(.int p16_0)] below meth c s₁ [] 0 0 := Stand.of_body Bd
  have e0 : s₁.heap = h0 := by rw [← hh, Bd.state]; rfl
  have N0 := Fr.nil n0
  have pre0 : ∀ t, Steps p.tables e below (s₁.setTop (mkF m 0 #[iv p16_0] [])) t → Steps p.tables e below (s₁.setTop (entryFrame m #[(.int p16_0)] 1)) t := fun t k => castTop (ef_rm16 m p16_0) k
  have wo23 := hw _ (List.mem_of_getElem? (i := 23) rfl)
  obtain ⟨T1, h1, k1, X1, e1, E1, A1, st1⟩ := newP (aty := .byte) X0 hx hZ wo23 e0 (g := (mkF m 1 #[iv p16_0] [(.int (1 : Int32))])) rfl (hb hby d16_1) rfl (by decide) (cap := 1) (by decide) (by decide) (by decide) (by decide)
  obtain ⟨b1, gg1⟩ : ∃ z, z = h0.size := ⟨_, rfl⟩
  rw [← gg1] at A1 st1
  have g2 : n0 ≤ b1 := Nat.le_trans Z0 (Nat.le_of_eq gg1.symm)
  have bz3 : h0.size ≤ b1 := Nat.le_trans (Keep.refl h0 []).1 (Nat.le_of_eq gg1.symm)
  have K5 : Keep h0 h1 [] := (Keep.refl h0 []).ext E1
  have f4 : Av Z h1 b1 .byte (1 : Int32) [(.int (0 : Int32))] (.int (0 : Int32)) := ⟨_, (Arv.new A1 (by decide)).pad (pad_rep [] (.int (0 : Int32)) 1)⟩
  obtain ⟨kk6, cl6, Ar6, qq6, Sz6, Nn6, Hs6, Gf6⟩ := id f4
  have hin7 : ¬ ((0 : Int32) < 0 ∨ cl6.slots.size ≤ ((0 : Int32)).toNatClampNeg) := inb_of Sz6 ⟨by decide, by decide⟩
  obtain ⟨T8, h8, X8, e8, W8, st8⟩ := stB X1 hx hZ e1 Ar6 (j := (0 : Int32)) hin7 (g := (mkF m 7 #[iv p16_0] [(.int (p16_0.toInt8.toInt32)), (.int (0 : Int32)), (.ref b1), (.ref b1)])) rfl rfl (hb hby d16_7)
  have K9 : Keep h0 h8 [] := (K5).wr W8 (Or.inr bz3)
  have f10 : Av Z h8 b1 .byte (1 : Int32) [(.int (nar .byte (p16_0.toInt8.toInt32)))] (.int (0 : Int32)) := ⟨_, Arv.set Ar6 qq6 Sz6 Nn6 Hs6 Gf6 (by first | rfl | exact fits_nar_byte _) W8 0 rfl (Nat.le_of_ble_eq_true rfl)⟩
  have N11 := Fr.snoc X8 N0 g2
  have q12 : (nar .byte (p16_0.toInt8.toInt32)) = (p16_0.toInt8.toInt32) := own_narb _
  have f13 : Av Z h8 b1 .byte (1 : Int32) [(.int (p16_0.toInt8.toInt32))] (.int (0 : Int32)) := by rw [← q12]; exact f10
  obtain ⟨fs, hr, hrun, hended, hW, hsame⟩ := X8.leave (v := some (.ref b1)) (fun h => by rw [Bd.returns] at h; cases h)
  refine ⟨_, _, pre0 _ ?_, hrun, hended, _, _, rfl, ?_, ⟨_, rfl⟩, hW, hsame.mono (by decide) (by decide)⟩
  · show Steps p.tables e below (s₁.setTop (mkF m 0 #[iv p16_0] [])) _
    refine XS.iconst X0.here hx rfl (hb hby d16_0) ?_
    show Steps p.tables e below (s₁.setTop (mkF m 1 #[iv p16_0] [(.int (1 : Int32))])) _
    refine st1 _ ?_
    show Steps p.tables e below (T1.setTop (mkF m 3 #[iv p16_0] [(.ref b1)])) _
    refine XS.dup X1.here hx rfl (hb hby d16_3) rfl rfl ?_
    show Steps p.tables e below (T1.setTop (mkF m 4 #[iv p16_0] [(.ref b1), (.ref b1)])) _
    refine XS.iconst X1.here hx rfl (hb hby d16_4) ?_
    show Steps p.tables e below (T1.setTop (mkF m 5 #[iv p16_0] [(.int (0 : Int32)), (.ref b1), (.ref b1)])) _
    refine XS.iloadN X1.here hx rfl (hb hby d16_5) rfl ?_
    show Steps p.tables e below (T1.setTop (mkF m 6 #[iv p16_0] [(.int p16_0), (.int (0 : Int32)), (.ref b1), (.ref b1)])) _
    refine XS.i2b X1.here hx rfl (hb hby d16_6) rfl ?_
    show Steps p.tables e below (T1.setTop (mkF m 7 #[iv p16_0] [(.int (p16_0.toInt8.toInt32)), (.int (0 : Int32)), (.ref b1), (.ref b1)])) _
    refine st8 _ ?_
    show Steps p.tables e below (T8.setTop (mkF m 8 #[iv p16_0] [(.ref b1)])) _
    show Steps p.tables e below (T8.setTop (mkF m 8 #[iv p16_0] [(.ref b1)])) _
    exact retOut X8 hx Bd.returns rfl (Or.inr (Or.inr (Or.inr (Or.inr ⟨rfl, rfl, rfl⟩)))) (hb hby d16_8) hr
  · show Q_rm16 Z _ h0 n0 _ T8.heap _
    rw [e8]
    exact ⟨b1, rfl, N11, (K9), bz3, f13⟩
theorem d17_0 : decode jdk_42_method_151_code 0 = .ok (.aload_n 0, 1) := by decide +kernel
theorem d17_1 : decode jdk_42_method_151_code 1 = .ok (.invokespecial 1, 3) := by decide +kernel
theorem d17_4 : decode jdk_42_method_151_code 4 = .ok (.aload_n 0, 1) := by decide +kernel
theorem d17_5 : decode jdk_42_method_151_code 5 = .ok (.aload_n 1, 1) := by decide +kernel
theorem d17_6 : decode jdk_42_method_151_code 6 = .ok (.putfield 9, 3) := by decide +kernel
theorem d17_9 : decode jdk_42_method_151_code 9 = .ok (.aload_n 0, 1) := by decide +kernel
theorem d17_10 : decode jdk_42_method_151_code 10 = .ok (.iload_n 2, 1) := by decide +kernel
theorem d17_11 : decode jdk_42_method_151_code 11 = .ok (.putfield 15, 3) := by decide +kernel
theorem d17_14 : decode jdk_42_method_151_code 14 = .ok (.return_, 1) := by decide +kernel
theorem pn_java_lang_String : plainName "java/lang/String" = true := by first | (simp [plainName, overriddenIn]; done) | decide +kernel
theorem ef_rm17 (m : MethodId) (x0 : Addr) (x1 : Addr) (x2 : Int32) : entryFrame m #[(.ref x0), (.ref x1), (.int x2)] 3 = mkF m 0 #[rv x0, rv x1, iv x2] [] := by first | (simp [entryFrame, mkF, argsToLocals, Value.category]; done) | rfl
def Q_rm17 (Z : State) (a17_0 : Addr) (bs : Addr) (h0 : Heap) (n0 : Nat) (v : Option Value) (h : Heap) (L : List Loc) : Prop := v = none ∧ Fr n0 L ∧ Keep h0 h [a17_0] ∧ (Fld Z h a17_0 "java/lang/String" "value" "[B" (.ref bs)) ∧ (Fld Z h a17_0 "java/lang/String" "coder" "B" (.int (0 : Int32)))
set_option maxRecDepth 65536 in
set_option maxHeartbeats 40000000 in
theorem rm17 (l : Launch) (Z : State) (a0 : Array Value) (hw : ∀ d ∈ tables_1, d.before a0 Z = true) (ws : List Jvm.Cond) (a17_0 : Addr) (bs : Addr) (h0 : Heap) (n0 : Nat) (Z0 : n0 ≤ h0.size) (pf_E_a17_0 : Exa Z h0 a17_0 "java/lang/String") (pf_G_a17_0 : n0 ≤ a17_0) (pf_F_a17_0_value : Fld Z h0 a17_0 "java/lang/String" "value" "[B" .null) (pf_F_a17_0_coder : Fld Z h0 a17_0 "java/lang/String" "coder" "B" (.int (0 : Int32))) :
    MetFree l (⟨"java/lang/String", "<init>", "([BB)V"⟩ : MethodName) (head1 (Jvm.Cond.code (⟨"java/lang/String", "<init>", "([BB)V"⟩ : MethodName) jdk_42_method_151_code 3 none :: ws) ({ frames := 1, cells := 0, slots := 0, locals := 12 } : Room)) (fun a U => a = #[(.ref a17_0), (.ref bs), (.int (0 : Int32))] ∧ Z.Warmed39 U.vm ∧ U.heap = h0) (fun _ _ _ _ _ => True) (fun _ U o U' => ∃ v L, o = .returned v ∧ Q_rm17 Z a17_0 bs h0 n0 v U'.heap L ∧ FrameEnd U o U' L ({ frames := 1, cells := 0, slots := 0, locals := 12 } : Room).cells ({ frames := 1, cells := 0, slots := 0, locals := 12 } : Room).slots) := by
  refine MetFree.of_bodySF (plainFor_of_name pn_java_lang_String) hisR ?_
  intro p e s m args below meth c s₁ Bd hml0 hP hK
  obtain ⟨rfl, hZ, hh⟩ := hP
  have hx := Bd.exec
  have hby := Bd.bytes
  have hml : c.maxLocals = 3 := hml0
  have hown : s.vm.findClass "java/lang/String" = some m.cls := findClass_of_methodNamed Bd.named
  have hnm := (name_of_methodNamed Bd.named Bd.method).1
  have X0 : Stand p l e ({ frames := 1, cells := 0, slots := 0, locals := 12 } : Room) s m #[(.ref a17_0), (.ref bs), (.int (0 : Int32))] below meth c s₁ [] 0 0 := Stand.of_body Bd
  have e0 : s₁.heap = h0 := by rw [← hh, Bd.state]; rfl
  have N0 := Fr.nil n0
  have pre0 : ∀ t, Steps p.tables e below (s₁.setTop (mkF m 0 #[rv a17_0, rv bs, iv (0 : Int32)] [])) t → Steps p.tables e below (s₁.setTop (entryFrame m #[(.ref a17_0), (.ref bs), (.int (0 : Int32))] 3)) t := fun t k => castTop (ef_rm17 m a17_0 bs (0 : Int32)) k
  have wo1 := hw _ (List.mem_of_getElem? (i := 1) rfl)
  have wo15 := hw _ (List.mem_of_getElem? (i := 15) rfl)
  have wo16 := hw _ (List.mem_of_getElem? (i := 16) rfl)
  have wo17 := hw _ (List.mem_of_getElem? (i := 17) rfl)
  have wo30 := hw _ (List.mem_of_getElem? (i := 30) rfl)
  have wo31 := hw _ (List.mem_of_getElem? (i := 31) rfl)
  have wo32 := hw _ (List.mem_of_getElem? (i := 32) rfl)
  have wo33 := hw _ (List.mem_of_getElem? (i := 33) rfl)
  obtain ⟨T1, X1, e1, st1⟩ := initO X0 hx hZ hown wo15 wo16 wo17 e0 (g := (mkF m 1 #[rv a17_0, rv bs, iv (0 : Int32)] [(.ref a17_0)])) rfl (by rw [hml]; rfl) rfl (hb hby d17_1) (by decide) (W := 0) (by show 2 * 0 + _ ≤ _; exact Nat.le_of_eq rfl) (by decide)
  obtain ⟨T2, h2, X2, e2, W2, st2⟩ := putF X1 hx hZ hown (host := "") (Or.inl wo32) Via.refl e1 pf_F_a17_0_value pf_E_a17_0 (Or.inr ⟨wo33, rfl, hnm⟩) wo1 (ty := (.array .byte)) (by decide) rfl rfl (g := (mkF m 6 #[rv a17_0, rv bs, iv (0 : Int32)] [(.ref bs), (.ref a17_0)])) rfl rfl (hb hby d17_6)
  have K3 : Keep h0 h2 [a17_0] := (Keep.refl h0 [a17_0]).wr W2 (Or.inl (List.mem_of_getElem? (i := 0) rfl))
  have f4 : Fld Z h2 a17_0 "java/lang/String" "value" "[B" (.ref bs) := pf_F_a17_0_value.same W2
  have N5 := Fr.snoc X2 N0 pf_G_a17_0
  have f6 := (pf_F_a17_0_coder.other W2 (Or.inr (slot_ne (Or.inr wo31) (Or.inr wo33) (by decide) (t := .byte) (t' := (.array .byte)) (by decide) (by decide))))
  have f7 := (pf_E_a17_0.wr W2)
  obtain ⟨T8, h8, X8, e8, W8, st8⟩ := putFN X2 hx hZ hown wo30 Via.refl e2 f6 f7 (Or.inr ⟨wo31, rfl, hnm⟩) wo1 (ty := .byte) (v' := (.int (0 : Int32))) (by decide) rfl (by first | rfl | exact fits_nar_byte _) (g := (mkF m 11 #[rv a17_0, rv bs, iv (0 : Int32)] [(.int (0 : Int32)), (.ref a17_0)])) rfl rfl (hb hby d17_11)
  have K9 : Keep h0 h8 [a17_0] := (K3).wr W8 (Or.inl (List.mem_of_getElem? (i := 0) rfl))
  have f10 : Fld Z h8 a17_0 "java/lang/String" "coder" "B" (.int (0 : Int32)) := f6.same W8
  have N11 := Fr.snoc X8 N5 pf_G_a17_0
  have f12 := (f4.other W8 (Or.inr (slot_ne (Or.inr wo33) (Or.inr wo31) (by decide) (t := (.array .byte)) (t' := .byte) (by decide) (by decide))))
  obtain ⟨fs, hr, hrun, hended, hW, hsame⟩ := X8.leave (v := none) (fun _ => rfl)
  refine ⟨_, _, pre0 _ ?_, hrun, hended, _, _, rfl, ?_, ⟨_, rfl⟩, hW, hsame.mono (by decide) (by decide)⟩
  · show Steps p.tables e below (s₁.setTop (mkF m 0 #[rv a17_0, rv bs, iv (0 : Int32)] [])) _
    refine XS.aloadN X0.here hx rfl (hb hby d17_0) rfl rfl ?_
    show Steps p.tables e below (s₁.setTop (mkF m 1 #[rv a17_0, rv bs, iv (0 : Int32)] [(.ref a17_0)])) _
    refine st1 _ ?_
    show Steps p.tables e below (T1.setTop (mkF m 4 #[rv a17_0, rv bs, iv (0 : Int32)] [])) _
    refine XS.aloadN X1.here hx rfl (hb hby d17_4) rfl rfl ?_
    show Steps p.tables e below (T1.setTop (mkF m 5 #[rv a17_0, rv bs, iv (0 : Int32)] [(.ref a17_0)])) _
    refine XS.aloadN X1.here hx rfl (hb hby d17_5) rfl rfl ?_
    show Steps p.tables e below (T1.setTop (mkF m 6 #[rv a17_0, rv bs, iv (0 : Int32)] [(.ref bs), (.ref a17_0)])) _
    refine st2 _ ?_
    show Steps p.tables e below (T2.setTop (mkF m 9 #[rv a17_0, rv bs, iv (0 : Int32)] [])) _
    refine XS.aloadN X2.here hx rfl (hb hby d17_9) rfl rfl ?_
    show Steps p.tables e below (T2.setTop (mkF m 10 #[rv a17_0, rv bs, iv (0 : Int32)] [(.ref a17_0)])) _
    refine XS.iloadN X2.here hx rfl (hb hby d17_10) rfl ?_
    show Steps p.tables e below (T2.setTop (mkF m 11 #[rv a17_0, rv bs, iv (0 : Int32)] [(.int (0 : Int32)), (.ref a17_0)])) _
    refine st8 _ ?_
    show Steps p.tables e below (T8.setTop (mkF m 14 #[rv a17_0, rv bs, iv (0 : Int32)] [])) _
    exact X8.returnOut hx Bd.returns (hb hby d17_14) hr
  · show Q_rm17 Z _ _ h0 n0 _ T8.heap _
    rw [e8]
    exact ⟨rfl, N11, (K9), f12, f10⟩
theorem d14_0 : decode jdk_42_method_139_code 0 = .ok (.getstatic 38, 3) := by decide +kernel
theorem d14_3 : decode jdk_42_method_139_code 3 = .ok (.ifCond .eq 23, 3) := by decide +kernel
theorem d14_6 : decode jdk_42_method_139_code 6 = .ok (.iload_n 0, 1) := by decide +kernel
theorem pd_4 : parseMethodDescriptor "(C)Z" = some ⟨[.char], some .boolean⟩ := by decide +kernel
theorem d14_7 : decode jdk_42_method_139_code 7 = .ok (.invokestatic 1015, 3) := by decide +kernel
theorem d14_10 : decode jdk_42_method_139_code 10 = .ok (.ifCond .eq 16, 3) := by decide +kernel
theorem d14_13 : decode jdk_42_method_139_code 13 = .ok (.new 10, 3) := by decide +kernel
theorem d14_16 : decode jdk_42_method_139_code 16 = .ok (.dup, 1) := by decide +kernel
theorem d14_17 : decode jdk_42_method_139_code 17 = .ok (.iload_n 0, 1) := by decide +kernel
theorem pd_5 : parseMethodDescriptor "(C)[B" = some ⟨[.char], some (.array .byte)⟩ := by decide +kernel
theorem d14_18 : decode jdk_42_method_139_code 18 = .ok (.invokestatic 1018, 3) := by decide +kernel
theorem d14_21 : decode jdk_42_method_139_code 21 = .ok (.iconst 0, 1) := by decide +kernel
theorem pd_10 : parseMethodDescriptor "([BB)V" = some ⟨[(.array .byte), .byte], none⟩ := by decide +kernel
theorem d14_22 : decode jdk_42_method_139_code 22 = .ok (.invokespecial 209, 3) := by decide +kernel
theorem d14_25 : decode jdk_42_method_139_code 25 = .ok (.areturn, 1) := by decide +kernel
theorem ef_rm14 (m : MethodId) (x0 : Int32) : entryFrame m #[(.int x0)] 1 = mkF m 0 #[iv x0] [] := by first | (simp [entryFrame, mkF, argsToLocals, Value.category]; done) | rfl
def Q_rm14 (Z : State) (ch : Int32) (cs : Int32) (h0 : Heap) (n0 : Nat) (v : Option Value) (h : Heap) (L : List Loc) : Prop := ∃ (r : Addr) (b : Addr), v = some (.ref r) ∧ Fr n0 L ∧ Keep h0 h [] ∧ (h0.size ≤ r) ∧ (Exa Z h r "java/lang/String") ∧ (Fld Z h r "java/lang/String" "value" "[B" (.ref b)) ∧ (Fld Z h r "java/lang/String" "coder" "B" (.int (0 : Int32))) ∧ (Av Z h b .byte (1 : Int32) (own_vs [ch]) (.int (0 : Int32)))
set_option maxRecDepth 65536 in
set_option maxHeartbeats 40000000 in
theorem rm14 (l : Launch) (Z : State) (a0 : Array Value) (hw : ∀ d ∈ tables_1, d.before a0 Z = true) (ws : List Jvm.Cond) (ch : Int32) (cs : Int32) (h0 : Heap) (n0 : Nat) (Z0 : n0 ≤ h0.size) (pf_O : Old Z n0 h0) (pf_S_java_lang_String_COMPACT_STRINGS : Sta Z Z.heap "java/lang/String" "COMPACT_STRINGS" "Z" (.int cs)) (hcs : ¬ (cs = (0 : Int32))) (hle : ¬ ch < 0 ∧ ¬ (255 : Int32) < ch) :
    MetFree l (⟨"java/lang/String", "valueOf", "(C)Ljava/lang/String;"⟩ : MethodName) (head1 (Jvm.Cond.code (⟨"java/lang/String", "valueOf", "(C)Ljava/lang/String;"⟩ : MethodName) jdk_42_method_139_code 1 (some (.object "java/lang/String")) :: ws) ({ frames := 2, cells := 2, slots := 5, locals := 27 } : Room)) (fun a U => a = #[(.int ch)] ∧ Z.Warmed39 U.vm ∧ U.heap = h0) (fun _ _ _ _ _ => True) (fun _ U o U' => ∃ v L, o = .returned v ∧ Q_rm14 Z ch cs h0 n0 v U'.heap L ∧ FrameEnd U o U' L ({ frames := 2, cells := 2, slots := 5, locals := 27 } : Room).cells ({ frames := 2, cells := 2, slots := 5, locals := 27 } : Room).slots) := by
  refine MetFree.of_bodySF (plainFor_of_name pn_java_lang_String) hisR ?_
  intro p e s m args below meth c s₁ Bd hml0 hP hK
  obtain ⟨rfl, hZ, hh⟩ := hP
  have hx := Bd.exec
  have hby := Bd.bytes
  have hml : c.maxLocals = 1 := hml0
  have hown : s.vm.findClass "java/lang/String" = some m.cls := findClass_of_methodNamed Bd.named
  have hnm := (name_of_methodNamed Bd.named Bd.method).1
  have X0 : Stand p l e ({ frames := 2, cells := 2, slots := 5, locals := 27 } : Room) s m #[(.int ch)] below meth c s₁ [] 0 0 := Stand.of_body Bd
  have e0 : s₁.heap = h0 := by rw [← hh, Bd.state]; rfl
  have N0 := Fr.nil n0
  have pre0 : ∀ t, Steps p.tables e below (s₁.setTop (mkF m 0 #[iv ch] [])) t → Steps p.tables e below (s₁.setTop (entryFrame m #[(.int ch)] 1)) t := fun t k => castTop (ef_rm14 m ch) k
  have wo1 := hw _ (List.mem_of_getElem? (i := 1) rfl)
  have wo2 := hw _ (List.mem_of_getElem? (i := 2) rfl)
  have wo18 := hw _ (List.mem_of_getElem? (i := 18) rfl)
  have wo31 := hw _ (List.mem_of_getElem? (i := 31) rfl)
  have wo33 := hw _ (List.mem_of_getElem? (i := 33) rfl)
  have wo45 := hw _ (List.mem_of_getElem? (i := 45) rfl)
  have wo48 := hw _ (List.mem_of_getElem? (i := 48) rfl)
  have wo86 := hw _ (List.mem_of_getElem? (i := 86) rfl)
  have wo87 := hw _ (List.mem_of_getElem? (i := 87) rfl)
  have wo88 := hw _ (List.mem_of_getElem? (i := 88) rfl)
  have wo89 := hw _ (List.mem_of_getElem? (i := 89) rfl)
  have wo90 := hw _ (List.mem_of_getElem? (i := 90) rfl)
  have wo91 := hw _ (List.mem_of_getElem? (i := 91) rfl)
  have wo92 := hw _ (List.mem_of_getElem? (i := 92) rfl)
  have wo93 := hw _ (List.mem_of_getElem? (i := 93) rfl)
  have wo94 := hw _ (List.mem_of_getElem? (i := 94) rfl)
  obtain ⟨T1, X1, e1, st1⟩ := getS2 X0 hx hZ hown (host := "") (Or.inl wo18) Via.refl e0 (pf_S_java_lang_String_COMPACT_STRINGS.ext pf_O.2) (g := (mkF m 0 #[iv ch] [])) rfl (hb hby d14_0)
  obtain ⟨_, _, ⟨T2, L2, k2, n2⟩, -, X2, ⟨Lc2, hQ2, l2, y2, z2⟩, st2⟩ := Jvm.LawKit.callS X1 hx (y := MN15) hown (mvT hZ wo86) (mvT hZ wo87) (mvT hZ wo48) (mvT hZ wo88) (by decide) (backOf (W := 0) (rm15 l Z a0 hw [] ch h0 n0 Z0 (hle : ¬ ch < 0 ∧ ¬ (255 : Int32) < ch)) hZ wo88 wo48 (by decide) (by decide)) (g := (mkF m 7 #[iv ch] [(.int ch)])) rfl (by rw [hml]; rfl) (argsL := [(.int ch)]) (rest := []) (lenOf pd_4 rfl) rfl (by show 2 * 0 + _ ≤ _; exact Nat.le_of_eq rfl) (hb hby d14_7) (fun _ _ => ⟨rfl, e1, (by decide : 0 + 0 ≤ _), (by decide : 0 + 0 ≤ _)⟩)
  dsimp only [Pt.U, Pt.locs, Pt.cells, Pt.slots] at X2 l2 y2 z2 st2 hQ2
  rw [l2, y2, z2] at X2
  obtain ⟨rfl, N2q, K2q⟩ := hQ2
  have N3 := Fr.app N0 N2q
  obtain ⟨T4, h4, X4, e4, E4, A4, D4, -, st4⟩ := newO X2 hx hZ hown wo45 wo1 wo2 K2q (g := (mkF m 13 #[iv ch] [])) rfl (hb hby d14_13) (by decide) (by decide)
  obtain ⟨b4, gg4⟩ : ∃ z, z = h0.size := ⟨_, rfl⟩
  rw [← gg4] at A4 D4 st4
  have g5 : n0 ≤ b4 := Nat.le_trans Z0 (Nat.le_of_eq gg4.symm)
  have bz6 : h0.size ≤ b4 := Nat.le_trans (Keep.refl h0 []).1 (Nat.le_of_eq gg4.symm)
  have K7 : Keep h0 h4 [] := (Keep.refl h0 []).ext E4
  have f8 : Fld Z h4 b4 "java/lang/String" "coder" "B" (.int (0 : Int32)) := D4 (Or.inr wo31) (ty := .byte) (by decide)
  have f9 : Fld Z h4 b4 "java/lang/String" "value" "[B" .null := D4 (Or.inr wo33) (ty := (.array .byte)) (by decide)
  have f11 := (Nat.le_trans Z0 E4.1)
  obtain ⟨_, _, ⟨T10, L10, k10, n10⟩, -, X10, ⟨Lc10, hQ10, l10, y10, z10⟩, st10⟩ := Jvm.LawKit.callS X4 hx (y := MN16) hown (mvT hZ wo89) (mvT hZ wo90) (mvT hZ wo48) (mvT hZ wo91) (by decide) (backOf (W := 2) (rm16 l Z a0 hw [] ch h4 n0 f11 ) hZ wo91 wo48 (by decide) (by decide)) (g := (mkF m 18 #[iv ch] [(.int ch), (.ref b4), (.ref b4)])) rfl (by rw [hml]; rfl) (argsL := [(.int ch)]) (rest := [(.ref b4), (.ref b4)]) (lenOf pd_5 rfl) rfl (by show 2 * 0 + _ ≤ _; exact Nat.le_of_eq rfl) (hb hby d14_18) (fun _ _ => ⟨rfl, e4, (by decide : 1 + 1 ≤ _), (by decide : 4 + 1 ≤ _)⟩)
  dsimp only [Pt.U, Pt.locs, Pt.cells, Pt.slots] at X10 l10 y10 z10 st10 hQ10
  rw [l10, y10, z10] at X10
  obtain ⟨b_10, rfl, N10q, K10q, hq10_0, hq10_1⟩ := hQ10
  have N12 := Fr.app N3 N10q
  have ne13 : b4 ≠ b_10 := Nat.ne_of_lt (Nat.lt_of_lt_of_le A4.lt hq10_0)
  have g14 : n0 ≤ b_10 := Nat.le_trans f11 hq10_0
  have bz15 : h0.size ≤ b_10 := Nat.le_trans (K7).1 hq10_0
  have K16 : Keep h0 T10.heap [] := (K7).trans K10q all0
  have f17 := (A4.keep K10q)
  have f18 := (f9.keep K10q nin0)
  have f19 := (f8.keep K10q nin0)
  have f21 := (Nat.le_trans f11 K10q.1)
  obtain ⟨_, _, ⟨T20, L20, k20, n20⟩, -, X20, ⟨Lc20, hQ20, l20, y20, z20⟩, st20⟩ := X10.specialBack hx (y := MN17) rfl hown (mvT hZ wo92) (mvT hZ wo93) (mvT hZ wo94) (by decide) (backOf (W := 1) (rm17 l Z a0 hw [] b4 b_10 (T10.heap) n0 f21 f17 g5 f18 f19) hZ wo94 wo2 (by decide) (by decide)) (g := (mkF m 22 #[iv ch] [(.int (0 : Int32)), (.ref b_10), (.ref b4), (.ref b4)])) rfl (by rw [hml]; rfl) (Steps.refl _) (a := b4) (argsL := [(.ref b_10), (.int (0 : Int32))]) (rest := [(.ref b4)]) (lenOf pd_10 rfl) rfl (by show 2 * 0 + _ ≤ _; exact Nat.le_of_eq rfl) (hb hby d14_22) (fun _ _ => ⟨rfl, rfl, (by decide : 2 + 0 ≤ _), (by decide : 5 + 0 ≤ _)⟩)
  dsimp only [Pt.U, Pt.locs, Pt.cells, Pt.slots] at X20 l20 y20 z20 st20 hQ20
  rw [l20, y20, z20] at X20
  obtain ⟨rfl, N20q, K20q, hq20_0, hq20_1⟩ := hQ20
  have N22 := Fr.app N12 N20q
  have K23 : Keep h0 T20.heap [] := (K16).trans K20q (allS (P := fun x => x ∈ [] ∨ h0.size ≤ x) (Or.inr bz6) all0)
  have f24 := (f17.keep K20q)
  have f25 := (hq10_1.keep K20q (ninS (Ne.symm ne13) nin0))
  obtain ⟨fs, hr, hrun, hended, hW, hsame⟩ := X20.leave (v := some (.ref b4)) (fun h => by rw [Bd.returns] at h; cases h)
  refine ⟨_, _, pre0 _ ?_, hrun, hended, _, _, rfl, ?_, ⟨_, rfl⟩, hW, hsame.mono (by decide) (by decide)⟩
  · show Steps p.tables e below (s₁.setTop (mkF m 0 #[iv ch] [])) _
    refine st1 _ ?_
    show Steps p.tables e below (T1.setTop (mkF m 3 #[iv ch] [(.int cs)])) _
    refine XS.ifNo X1.here hx rfl (hb hby d14_3) rfl ((if0 _ _).trans (feq hcs).1) ?_
    show Steps p.tables e below (T1.setTop (mkF m 6 #[iv ch] [])) _
    refine XS.iloadN X1.here hx rfl (hb hby d14_6) rfl ?_
    show Steps p.tables e below (T1.setTop (mkF m 7 #[iv ch] [(.int ch)])) _
    refine st2 _ ?_
    show Steps p.tables e below (T2.setTop (mkF m 10 #[iv ch] [(.int (1 : Int32))])) _
    refine XS.ifNo X2.here hx rfl (hb hby d14_10) rfl ((if0 _ _).trans (feq (by decide : ¬ ((1 : Int32) = (0 : Int32)))).1) ?_
    show Steps p.tables e below (T2.setTop (mkF m 13 #[iv ch] [])) _
    refine st4 _ ?_
    show Steps p.tables e below (T4.setTop (mkF m 16 #[iv ch] [(.ref b4)])) _
    refine XS.dup X4.here hx rfl (hb hby d14_16) rfl rfl ?_
    show Steps p.tables e below (T4.setTop (mkF m 17 #[iv ch] [(.ref b4), (.ref b4)])) _
    refine XS.iloadN X4.here hx rfl (hb hby d14_17) rfl ?_
    show Steps p.tables e below (T4.setTop (mkF m 18 #[iv ch] [(.int ch), (.ref b4), (.ref b4)])) _
    refine st10 _ ?_
    show Steps p.tables e below (T10.setTop (mkF m 21 #[iv ch] [(.ref b_10), (.ref b4), (.ref b4)])) _
    refine XS.iconst X10.here hx rfl (hb hby d14_21) ?_
    show Steps p.tables e below (T10.setTop (mkF m 22 #[iv ch] [(.int (0 : Int32)), (.ref b_10), (.ref b4), (.ref b4)])) _
    refine st20.trans ?_
    show Steps p.tables e below (T20.setTop (mkF m 25 #[iv ch] [(.ref b4)])) _
    exact retOut X20 hx Bd.returns rfl (Or.inr (Or.inr (Or.inr (Or.inr ⟨rfl, rfl, rfl⟩)))) (hb hby d14_25) hr
  · show Q_rm14 Z _ _ h0 n0 _ T20.heap _
    exact ⟨b4, b_10, rfl, N22, (K23), bz6, f24, hq20_0, hq20_1, f25⟩
theorem d8_0 : decode method_3_code 0 = .ok (.aload_n 0, 1) := by decide +kernel
theorem d8_1 : decode method_3_code 1 = .ok (.ifnonnull 5, 3) := by decide +kernel
theorem d8_6 : decode method_3_code 6 = .ok (.aload_n 0, 1) := by decide +kernel
theorem d8_7 : decode method_3_code 7 = .ok (.ldc 41, 2) := by decide +kernel
theorem pd_8 : parseMethodDescriptor "(Ljava/lang/Object;)Z" = some ⟨[(.object "java/lang/Object")], some .boolean⟩ := by decide +kernel
theorem d8_9 : decode method_3_code 9 = .ok (.invokevirtual 43, 3) := by decide +kernel
theorem d8_12 : decode method_3_code 12 = .ok (.ifCond .eq 7, 3) := by decide +kernel
theorem d8_15 : decode method_3_code 15 = .ok (.getstatic 47, 3) := by decide +kernel
theorem d8_18 : decode method_3_code 18 = .ok (.areturn, 1) := by decide +kernel
theorem d8_19 : decode method_3_code 19 = .ok (.aload_n 0, 1) := by decide +kernel
theorem d8_20 : decode method_3_code 20 = .ok (.ldc 51, 2) := by decide +kernel
theorem d8_22 : decode method_3_code 22 = .ok (.invokevirtual 43, 3) := by decide +kernel
theorem d8_25 : decode method_3_code 25 = .ok (.ifCond .eq 7, 3) := by decide +kernel
theorem d8_28 : decode method_3_code 28 = .ok (.getstatic 53, 3) := by decide +kernel
theorem d8_31 : decode method_3_code 31 = .ok (.areturn, 1) := by decide +kernel
theorem d8_32 : decode method_3_code 32 = .ok (.aload_n 0, 1) := by decide +kernel
theorem d8_33 : decode method_3_code 33 = .ok (.ldc 56, 2) := by decide +kernel
theorem d8_35 : decode method_3_code 35 = .ok (.invokevirtual 43, 3) := by decide +kernel
theorem d8_38 : decode method_3_code 38 = .ok (.ifCond .eq 7, 3) := by decide +kernel
theorem d8_41 : decode method_3_code 41 = .ok (.getstatic 58, 3) := by decide +kernel
theorem d8_44 : decode method_3_code 44 = .ok (.areturn, 1) := by decide +kernel
theorem d8_45 : decode method_3_code 45 = .ok (.aload_n 0, 1) := by decide +kernel
theorem d8_46 : decode method_3_code 46 = .ok (.ldc 61, 2) := by decide +kernel
theorem d8_48 : decode method_3_code 48 = .ok (.invokevirtual 43, 3) := by decide +kernel
theorem d8_51 : decode method_3_code 51 = .ok (.ifCond .eq 7, 3) := by decide +kernel
theorem d8_54 : decode method_3_code 54 = .ok (.getstatic 63, 3) := by decide +kernel
theorem d8_57 : decode method_3_code 57 = .ok (.areturn, 1) := by decide +kernel
theorem d8_58 : decode method_3_code 58 = .ok (.aconst_null, 1) := by decide +kernel
theorem d8_59 : decode method_3_code 59 = .ok (.areturn, 1) := by decide +kernel
theorem ef_rmExp (m : MethodId) (x0 : Addr) : entryFrame m #[(.ref x0)] 1 = mkF m 0 #[rv x0] [] := by first | (simp [entryFrame, mkF, argsToLocals, Value.category]; done) | rfl
def Q_rmExp (Z : State) (st_ : Addr) (sv_ : Addr) (sn_ : Int32) (cs_ : List Int32) (s_NAMES : Addr) (s_ATTRIBUTES : Addr) (s_TYPES : Addr) (s_LINKS : Addr) (cs : Int32) (h0 : Heap) (n0 : Nat) (v : Option Value) (h : Heap) (L : List Loc) : Prop := v = some (own_pk cs_ s_NAMES s_ATTRIBUTES s_TYPES s_LINKS) ∧ Fr n0 L ∧ Keep h0 h []
set_option maxRecDepth 65536 in
set_option maxHeartbeats 40000000 in
theorem rmExp (l : Launch) (Z : State) (a0 : Array Value) (hw : ∀ d ∈ tables_1, d.before a0 Z = true) (ws : List Jvm.Cond) (st_ : Addr) (sv_ : Addr) (sn_ : Int32) (cs_ : List Int32) (s_NAMES : Addr) (s_ATTRIBUTES : Addr) (s_TYPES : Addr) (s_LINKS : Addr) (cs : Int32) (h0 : Heap) (n0 : Nat) (Z0 : n0 ≤ h0.size) (pf_O : Old Z n0 h0) (pf_S_com_example_iskati_iskati_entity_EntityField_NAMES : Sta Z Z.heap "com/example/iskati/iskati/entity/EntityField" "NAMES" "Lcom/example/iskati/iskati/entity/EntityField;" (.ref s_NAMES)) (pf_S_com_example_iskati_iskati_entity_EntityField_ATTRIBUTES : Sta Z Z.heap "com/example/iskati/iskati/entity/EntityField" "ATTRIBUTES" "Lcom/example/iskati/iskati/entity/EntityField;" (.ref s_ATTRIBUTES)) (pf_S_com_example_iskati_iskati_entity_EntityField_TYPES : Sta Z Z.heap "com/example/iskati/iskati/entity/EntityField" "TYPES" "Lcom/example/iskati/iskati/entity/EntityField;" (.ref s_TYPES)) (pf_S_com_example_iskati_iskati_entity_EntityField_LINKS : Sta Z Z.heap "com/example/iskati/iskati/entity/EntityField" "LINKS" "Lcom/example/iskati/iskati/entity/EntityField;" (.ref s_LINKS)) (pf_S_java_lang_String_COMPACT_STRINGS : Sta Z Z.heap "java/lang/String" "COMPACT_STRINGS" "Z" (.int cs)) (hcs : ¬ (cs = (0 : Int32))) (pf_E_st_ : Exa Z h0 st_ "java/lang/String") (pf_F_st__value : Fld Z h0 st_ "java/lang/String" "value" "[B" (.ref sv_)) (pf_F_st__coder : Fld Z h0 st_ "java/lang/String" "coder" "B" (.int (0 : Int32))) (pf_A_sv_ : Av Z h0 sv_ .byte sn_ (own_vs cs_) (.int (0 : Int32))) (hns : sn_ = Int32.ofNat cs_.length) (hrs : ∀ c ∈ cs_, ¬ c < 0 ∧ ¬ (255 : Int32) < c) (hks : cs_.length ≤ 4000) :
    MetFree l (⟨"com/example/iskati/iskati/entity/EntityFieldNamedPinLaw", "expected", "(Ljava/lang/String;)Lcom/example/iskati/iskati/entity/EntityField;"⟩ : MethodName) (head1 (Jvm.Cond.code (⟨"com/example/iskati/iskati/entity/EntityFieldNamedPinLaw", "expected", "(Ljava/lang/String;)Lcom/example/iskati/iskati/entity/EntityField;"⟩ : MethodName) method_3_code 1 (some (.object "com/example/iskati/iskati/entity/EntityField")) :: ws) ({ frames := 2, cells := 8, slots := 116, locals := 28 } : Room)) (fun a U => a = #[(.ref st_)] ∧ Z.Warmed39 U.vm ∧ U.heap = h0 ∧ CHv Z consts_1 U.vm h0) (fun _ _ _ _ _ => True) (fun _ U o U' => ∃ v L, o = .returned v ∧ Q_rmExp Z st_ sv_ sn_ cs_ s_NAMES s_ATTRIBUTES s_TYPES s_LINKS cs h0 n0 v U'.heap L ∧ CHr Z consts_1 U.vm U.heap U'.vm U'.heap ∧ ReturnedEndW U o U' L ({ frames := 2, cells := 8, slots := 116, locals := 28 } : Room).cells ({ frames := 2, cells := 8, slots := 116, locals := 28 } : Room).slots) := by
  refine MetFree.of_bodySF (plainFor_of_name pn_com_example_iskati_iskati_entity_EntityFieldNamedPinLaw) hisR ?_
  intro p e s m args below meth c s₁ Bd hml0 hP hK
  obtain ⟨rfl, hZ, hh, CH0⟩ := hP
  have hx := Bd.exec
  have hby := Bd.bytes
  have hml : c.maxLocals = 1 := hml0
  have hown : s.vm.findClass "com/example/iskati/iskati/entity/EntityFieldNamedPinLaw" = some m.cls := findClass_of_methodNamed Bd.named
  have hnm := (name_of_methodNamed Bd.named Bd.method).1
  have X0 : Stand p l e ({ frames := 2, cells := 8, slots := 116, locals := 28 } : Room) s m #[(.ref st_)] below meth c s₁ [] 0 0 := Stand.of_body Bd
  have e0 : s₁.heap = h0 := by rw [← hh, Bd.state]; rfl
  have N0 := Fr.nil n0
  have pre0 : ∀ t, Steps p.tables e below (s₁.setTop (mkF m 0 #[rv st_] [])) t → Steps p.tables e below (s₁.setTop (entryFrame m #[(.ref st_)] 1)) t := fun t k => castTop (ef_rmExp m st_) k
  have CR0 := CHr.refl CH0
  have hEL := own_EW hw
  have wo1 := hw _ (List.mem_of_getElem? (i := 1) rfl)
  have wo37 := hw _ (List.mem_of_getElem? (i := 37) rfl)
  have wo40 := hw _ (List.mem_of_getElem? (i := 40) rfl)
  have wo41 := hw _ (List.mem_of_getElem? (i := 41) rfl)
  have wo42 := hw _ (List.mem_of_getElem? (i := 42) rfl)
  have wo43 := hw _ (List.mem_of_getElem? (i := 43) rfl)
  have wo50 := hw _ (List.mem_of_getElem? (i := 50) rfl)
  have wo80 := hw _ (List.mem_of_getElem? (i := 80) rfl)
  have wo81 := hw _ (List.mem_of_getElem? (i := 81) rfl)
  have wo82 := hw _ (List.mem_of_getElem? (i := 82) rfl)
  have wo95 := hw _ (List.mem_of_getElem? (i := 95) rfl)
  have wo96 := hw _ (List.mem_of_getElem? (i := 96) rfl)
  have wo101 := hw _ (List.mem_of_getElem? (i := 101) rfl)
  have pre1 : ∀ t, Steps p.tables e below (s₁.setTop (mkF m 7 #[rv st_] [(.ref st_)])) t → Steps p.tables e below (s₁.setTop (entryFrame m #[(.ref st_)] 1)) t := by
    intro t_ k_
    refine pre0 _ ?_
    show Steps p.tables e below (s₁.setTop (mkF m 0 #[rv st_] [])) _
    refine XS.aloadN X0.here hx rfl (hb hby d8_0) rfl rfl ?_
    show Steps p.tables e below (s₁.setTop (mkF m 1 #[rv st_] [(.ref st_)])) _
    refine XS.ifnonnullYes X0.here hx rfl (pc0 := 1) (pc' := 6) rfl (hb hby d8_1) rfl (by decide) (by decide) ?_
    show Steps p.tables e below (s₁.setTop (mkF m 6 #[rv st_] [])) _
    refine XS.aloadN X0.here hx rfl (hb hby d8_6) rfl rfl ?_
    exact k_
  obtain ⟨sa2, T2, h2, k2, sb2, kb2, X2, e2, E2, S2, K2, hZ, hown, hE2, hC2, hV2, hA2, -, -, cc2, -, NS2, st2⟩ := ldcCH (s := s) (vm0 := s.vm) X0 hx hZ hown wo37 (fun d hd => hw d ((by decide +kernel : ∀ d ∈ Bundle.stringAtoms, d ∈ tables_1) d hd)) e0 ((State.WarmedH.refl s).since 0) (Nat.zero_le _) hEL (List.mem_of_getElem? (i := 1) rfl) CR0.1 (vs := (own_vs own_L1)) (z := 5) ⟨by decide, by rfl⟩ (by decide) (by decide) (g := (mkF m 7 #[rv st_] [(.ref st_)])) rfl (hb hby d8_7) (n := 20) (by decide) (by decide) (by decide) (by decide)
  have CS3 : CHr Z consts_1 s.vm h0 T2.vm h2 := cc2
  have CR4 := CR0.trans CS3
  have K5 : Keep h0 h2 [] := (Keep.refl h0 []).ext E2
  have f6 : Av Z h2 sb2 .byte (5 : Int32) (own_vs own_L1) (.int (0 : Int32)) := ⟨kb2, hA2⟩
  have f10 := (pf_A_sv_.ext E2)
  obtain ⟨kv8, hv9⟩ := id f10
  have f11 := (pf_E_st_.ext E2)
  have f12 := (pf_F_st__value.ext E2)
  have f13 := (pf_F_st__coder.ext E2)
  obtain ⟨kv14, hv15⟩ := id f6
  have f16 := (pf_O.ext E2)
  have hws7 : ∀ d ∈ StrChars.Road.wordsEq, d.before a0 Z = true := fun d hd => hw d ((by decide +kernel : ∀ d ∈ StrChars.Road.wordsEq, d ∈ tables_1) d hd)
  obtain ⟨cq7, kq7, q7a, q7b, q7c⟩ := isOf hZ e2 f11
  obtain ⟨_, _, ⟨T7, L7, k7, n7⟩, -, X7, ⟨Lc7, hQ7, l7, y7, z7⟩, st7⟩ := X2.virtualBack hx (y := MN9) (z := MN9) hown (mvT hZ wo40) (mvT hZ wo41) (notFace_of_selects (args := #[]) (mvT hZ wo43)) (mvT hZ wo43) (mvT hZ wo42) (by decide) (StrChars.Road.eqW (W := 0) hZ hws7 (kI := 4) wo1 f11 f12 f13 hv9 (own_cod hns hrs) (own_wid hrs) hks hE2 hV2 hC2 hv15 (own_cod (by rfl) own_Lr1) (own_wid own_Lr1) (by decide) (pf_S_java_lang_String_COMPACT_STRINGS.ext f16.2) hcs (by decide) (by decide)) q7a q7c (g := (mkF m 9 #[rv st_] [(.ref sa2), (.ref st_)])) rfl (by rw [hml]; rfl) (Steps.refl _) (argsL := [(.ref sa2)]) (rest := []) (lenOf pd_8 rfl) rfl (by show 2 * 0 + _ ≤ _; exact Nat.le_of_eq rfl) (hb hby d8_9) (fun _ _ => ⟨rfl, e2, (by decide : 2 + 0 ≤ _), (by decide : 24 + 0 ≤ _)⟩)
  dsimp only [Pt.U, Pt.locs, Pt.cells, Pt.slots] at X7 l7 y7 z7 st7 hQ7
  rw [l7, y7, z7] at X7
  obtain ⟨hv7, hl7, K7q⟩ := hQ7
  rw [hl7, List.append_nil] at X7
  obtain rfl := own_pick hv7
  have pre17 : ∀ t, Steps p.tables e below (T7.setTop (mkF m 12 #[rv st_] [(.int (if cs_ = own_L1 then (1 : Int32) else (0 : Int32)))])) t → Steps p.tables e below (s₁.setTop (entryFrame m #[(.ref st_)] 1)) t := by
    intro t_ k_
    refine pre1 _ ?_
    show Steps p.tables e below (s₁.setTop (mkF m 7 #[rv st_] [(.ref st_)])) _
    refine st2 _ ?_
    show Steps p.tables e below (T2.setTop (mkF m 9 #[rv st_] [(.ref sa2), (.ref st_)])) _
    refine st7.trans ?_
    exact k_
  by_cases hb18 : cs_ = own_L1
  · skip
    have q19 : (if cs_ = own_L1 then (1 : Int32) else (0 : Int32)) = (1 : Int32) := if_pos hb18
    obtain ⟨T20, X20, e20, st20⟩ := getS2 X7 hx hZ hown (host := "") (Or.inl wo50) Via.refl K7q (pf_S_com_example_iskati_iskati_entity_EntityField_NAMES.ext f16.2) (g := (mkF m 15 #[rv st_] [])) rfl (hb hby d8_15)
    obtain ⟨fs, hr, hrun, hended, -, hW1, hW2, hW3⟩ := X20.leaveW S2 (by rw [e20]; exact K2) (v := some (.ref s_NAMES)) (fun h => by rw [Bd.returns] at h; cases h)
    refine ⟨_, _, pre17 _ ?_, hrun, hended, _, _, rfl, ?_, (by show CHr Z consts_1 s.vm s.heap T20.vm T20.heap; rw [hh, e20]; exact CR4.trans (CHv.at (s := s) (vm0 := T2.vm) X20 hZ hEL CR4.1)), ⟨_, rfl⟩, hW1, hW2, hW3.mono (by decide) (by decide)⟩
    · show Steps p.tables e below (T7.setTop (mkF m 12 #[rv st_] [(.int (if cs_ = own_L1 then (1 : Int32) else (0 : Int32)))])) _
      rw [q19]
      show Steps p.tables e below (T7.setTop (mkF m 12 #[rv st_] [(.int (1 : Int32))])) _
      show Steps p.tables e below (T7.setTop (mkF m 12 #[rv st_] [(.int (1 : Int32))])) _
      refine XS.ifNo X7.here hx rfl (hb hby d8_12) rfl ((if0 _ _).trans (feq (by decide : ¬ ((1 : Int32) = (0 : Int32)))).1) ?_
      show Steps p.tables e below (T7.setTop (mkF m 15 #[rv st_] [])) _
      refine st20 _ ?_
      show Steps p.tables e below (T20.setTop (mkF m 18 #[rv st_] [(.ref s_NAMES)])) _
      exact retOut X20 hx Bd.returns rfl (Or.inr (Or.inr (Or.inr (Or.inr ⟨rfl, rfl, rfl⟩)))) (hb hby d8_18) hr
    · show Q_rmExp Z _ _ _ _ _ _ _ _ _ h0 n0 _ T20.heap _
      rw [e20]
      exact ⟨(by unfold own_pk; rw [if_pos hb18]), N0, (K5)⟩
  · skip
    have q21 : (if cs_ = own_L1 then (1 : Int32) else (0 : Int32)) = (0 : Int32) := if_neg hb18
    have pre22 : ∀ t, Steps p.tables e below (T7.setTop (mkF m 20 #[rv st_] [(.ref st_)])) t → Steps p.tables e below (s₁.setTop (entryFrame m #[(.ref st_)] 1)) t := by
      intro t_ k_
      refine pre17 _ ?_
      show Steps p.tables e below (T7.setTop (mkF m 12 #[rv st_] [(.int (if cs_ = own_L1 then (1 : Int32) else (0 : Int32)))])) _
      rw [q21]
      show Steps p.tables e below (T7.setTop (mkF m 12 #[rv st_] [(.int (0 : Int32))])) _
      show Steps p.tables e below (T7.setTop (mkF m 12 #[rv st_] [(.int (0 : Int32))])) _
      refine XS.ifYes X7.here hx rfl (pc0 := 12) (pc' := 19) rfl (hb hby d8_12) rfl ((if0 _ _).trans (teq (by decide : (0 : Int32) = (0 : Int32))).1) (by decide) (by decide) ?_
      show Steps p.tables e below (T7.setTop (mkF m 19 #[rv st_] [])) _
      refine XS.aloadN X7.here hx rfl (hb hby d8_19) rfl rfl ?_
      exact k_
    obtain ⟨sa23, T23, h23, k23, sb23, kb23, X23, e23, E23, S23, K23, hZ, hown, hE23, hC23, hV23, hA23, -, -, cc23, -, NS23, st23⟩ := ldcCH (s := s) (vm0 := T2.vm) X7 hx hZ hown wo80 (fun d hd => hw d ((by decide +kernel : ∀ d ∈ Bundle.stringAtoms, d ∈ tables_1) d hd)) K7q S2 K2 hEL (List.mem_of_getElem? (i := 2) rfl) CR4.1 (vs := (own_vs own_L2)) (z := 10) ⟨by decide, by rfl⟩ (by decide) (by decide) (g := (mkF m 20 #[rv st_] [(.ref st_)])) rfl (hb hby d8_20) (n := 40) (by decide) (by decide) (by decide) (by decide)
    have CS24 : CHr Z consts_1 T2.vm h2 T23.vm h23 := cc23
    have CR25 := CR4.trans CS24
    have K26 : Keep h0 h23 [] := (K5).ext E23
    have f27 : Av Z h23 sb23 .byte (10 : Int32) (own_vs own_L2) (.int (0 : Int32)) := ⟨kb23, hA23⟩
    have f31 := (f10.ext E23)
    obtain ⟨kv29, hv30⟩ := id f31
    have f32 := (f11.ext E23)
    have f33 := (f12.ext E23)
    have f34 := (f13.ext E23)
    obtain ⟨kv35, hv36⟩ := id f27
    have f37 := (f16.ext E23)
    have hws28 : ∀ d ∈ StrChars.Road.wordsEq, d.before a0 Z = true := fun d hd => hw d ((by decide +kernel : ∀ d ∈ StrChars.Road.wordsEq, d ∈ tables_1) d hd)
    obtain ⟨cq28, kq28, q28a, q28b, q28c⟩ := isOf hZ e23 f32
    obtain ⟨_, _, ⟨T28, L28, k28, n28⟩, -, X28, ⟨Lc28, hQ28, l28, y28, z28⟩, st28⟩ := X23.virtualBack hx (y := MN9) (z := MN9) hown (mvT hZ wo40) (mvT hZ wo41) (notFace_of_selects (args := #[]) (mvT hZ wo43)) (mvT hZ wo43) (mvT hZ wo42) (by decide) (StrChars.Road.eqW (W := 0) hZ hws28 (kI := 4) wo1 f32 f33 f34 hv30 (own_cod hns hrs) (own_wid hrs) hks hE23 hV23 hC23 hv36 (own_cod (by rfl) own_Lr2) (own_wid own_Lr2) (by decide) (pf_S_java_lang_String_COMPACT_STRINGS.ext f37.2) hcs (by decide) (by decide)) q28a q28c (g := (mkF m 22 #[rv st_] [(.ref sa23), (.ref st_)])) rfl (by rw [hml]; rfl) (Steps.refl _) (argsL := [(.ref sa23)]) (rest := []) (lenOf pd_8 rfl) rfl (by show 2 * 0 + _ ≤ _; exact Nat.le_of_eq rfl) (hb hby d8_22) (fun _ _ => ⟨rfl, e23, (by decide : 4 + 0 ≤ _), (by decide : 68 + 0 ≤ _)⟩)
    dsimp only [Pt.U, Pt.locs, Pt.cells, Pt.slots] at X28 l28 y28 z28 st28 hQ28
    rw [l28, y28, z28] at X28
    obtain ⟨hv28, hl28, K28q⟩ := hQ28
    rw [hl28, List.append_nil] at X28
    obtain rfl := own_pick hv28
    have pre38 : ∀ t, Steps p.tables e below (T28.setTop (mkF m 25 #[rv st_] [(.int (if cs_ = own_L2 then (1 : Int32) else (0 : Int32)))])) t → Steps p.tables e below (s₁.setTop (entryFrame m #[(.ref st_)] 1)) t := by
      intro t_ k_
      refine pre22 _ ?_
      show Steps p.tables e below (T7.setTop (mkF m 20 #[rv st_] [(.ref st_)])) _
      refine st23 _ ?_
      show Steps p.tables e below (T23.setTop (mkF m 22 #[rv st_] [(.ref sa23), (.ref st_)])) _
      refine st28.trans ?_
      exact k_
    by_cases hb39 : cs_ = own_L2
    · skip
      have q40 : (if cs_ = own_L2 then (1 : Int32) else (0 : Int32)) = (1 : Int32) := if_pos hb39
      obtain ⟨T41, X41, e41, st41⟩ := getS2 X28 hx hZ hown (host := "") (Or.inl wo95) Via.refl K28q (pf_S_com_example_iskati_iskati_entity_EntityField_ATTRIBUTES.ext f37.2) (g := (mkF m 28 #[rv st_] [])) rfl (hb hby d8_28)
      obtain ⟨fs, hr, hrun, hended, -, hW1, hW2, hW3⟩ := X41.leaveW S23 (by rw [e41]; exact K23) (v := some (.ref s_ATTRIBUTES)) (fun h => by rw [Bd.returns] at h; cases h)
      refine ⟨_, _, pre38 _ ?_, hrun, hended, _, _, rfl, ?_, (by show CHr Z consts_1 s.vm s.heap T41.vm T41.heap; rw [hh, e41]; exact CR25.trans (CHv.at (s := s) (vm0 := T23.vm) X41 hZ hEL CR25.1)), ⟨_, rfl⟩, hW1, hW2, hW3.mono (by decide) (by decide)⟩
      · show Steps p.tables e below (T28.setTop (mkF m 25 #[rv st_] [(.int (if cs_ = own_L2 then (1 : Int32) else (0 : Int32)))])) _
        rw [q40]
        show Steps p.tables e below (T28.setTop (mkF m 25 #[rv st_] [(.int (1 : Int32))])) _
        show Steps p.tables e below (T28.setTop (mkF m 25 #[rv st_] [(.int (1 : Int32))])) _
        refine XS.ifNo X28.here hx rfl (hb hby d8_25) rfl ((if0 _ _).trans (feq (by decide : ¬ ((1 : Int32) = (0 : Int32)))).1) ?_
        show Steps p.tables e below (T28.setTop (mkF m 28 #[rv st_] [])) _
        refine st41 _ ?_
        show Steps p.tables e below (T41.setTop (mkF m 31 #[rv st_] [(.ref s_ATTRIBUTES)])) _
        exact retOut X41 hx Bd.returns rfl (Or.inr (Or.inr (Or.inr (Or.inr ⟨rfl, rfl, rfl⟩)))) (hb hby d8_31) hr
      · show Q_rmExp Z _ _ _ _ _ _ _ _ _ h0 n0 _ T41.heap _
        rw [e41]
        exact ⟨(by unfold own_pk; rw [if_neg hb18, if_pos hb39]), N0, (K26)⟩
    · skip
      have q42 : (if cs_ = own_L2 then (1 : Int32) else (0 : Int32)) = (0 : Int32) := if_neg hb39
      have pre43 : ∀ t, Steps p.tables e below (T28.setTop (mkF m 33 #[rv st_] [(.ref st_)])) t → Steps p.tables e below (s₁.setTop (entryFrame m #[(.ref st_)] 1)) t := by
        intro t_ k_
        refine pre38 _ ?_
        show Steps p.tables e below (T28.setTop (mkF m 25 #[rv st_] [(.int (if cs_ = own_L2 then (1 : Int32) else (0 : Int32)))])) _
        rw [q42]
        show Steps p.tables e below (T28.setTop (mkF m 25 #[rv st_] [(.int (0 : Int32))])) _
        show Steps p.tables e below (T28.setTop (mkF m 25 #[rv st_] [(.int (0 : Int32))])) _
        refine XS.ifYes X28.here hx rfl (pc0 := 25) (pc' := 32) rfl (hb hby d8_25) rfl ((if0 _ _).trans (teq (by decide : (0 : Int32) = (0 : Int32))).1) (by decide) (by decide) ?_
        show Steps p.tables e below (T28.setTop (mkF m 32 #[rv st_] [])) _
        refine XS.aloadN X28.here hx rfl (hb hby d8_32) rfl rfl ?_
        exact k_
      obtain ⟨sa44, T44, h44, k44, sb44, kb44, X44, e44, E44, S44, K44, hZ, hown, hE44, hC44, hV44, hA44, -, -, cc44, -, NS44, st44⟩ := ldcCH (s := s) (vm0 := T23.vm) X28 hx hZ hown wo81 (fun d hd => hw d ((by decide +kernel : ∀ d ∈ Bundle.stringAtoms, d ∈ tables_1) d hd)) K28q S23 K23 hEL (List.mem_of_getElem? (i := 3) rfl) CR25.1 (vs := (own_vs own_L3)) (z := 5) ⟨by decide, by rfl⟩ (by decide) (by decide) (g := (mkF m 33 #[rv st_] [(.ref st_)])) rfl (hb hby d8_33) (n := 20) (by decide) (by decide) (by decide) (by decide)
      have CS45 : CHr Z consts_1 T23.vm h23 T44.vm h44 := cc44
      have CR46 := CR25.trans CS45
      have K47 : Keep h0 h44 [] := (K26).ext E44
      have f48 : Av Z h44 sb44 .byte (5 : Int32) (own_vs own_L3) (.int (0 : Int32)) := ⟨kb44, hA44⟩
      have f52 := (f31.ext E44)
      obtain ⟨kv50, hv51⟩ := id f52
      have f53 := (f32.ext E44)
      have f54 := (f33.ext E44)
      have f55 := (f34.ext E44)
      obtain ⟨kv56, hv57⟩ := id f48
      have f58 := (f37.ext E44)
      have hws49 : ∀ d ∈ StrChars.Road.wordsEq, d.before a0 Z = true := fun d hd => hw d ((by decide +kernel : ∀ d ∈ StrChars.Road.wordsEq, d ∈ tables_1) d hd)
      obtain ⟨cq49, kq49, q49a, q49b, q49c⟩ := isOf hZ e44 f53
      obtain ⟨_, _, ⟨T49, L49, k49, n49⟩, -, X49, ⟨Lc49, hQ49, l49, y49, z49⟩, st49⟩ := X44.virtualBack hx (y := MN9) (z := MN9) hown (mvT hZ wo40) (mvT hZ wo41) (notFace_of_selects (args := #[]) (mvT hZ wo43)) (mvT hZ wo43) (mvT hZ wo42) (by decide) (StrChars.Road.eqW (W := 0) hZ hws49 (kI := 4) wo1 f53 f54 f55 hv51 (own_cod hns hrs) (own_wid hrs) hks hE44 hV44 hC44 hv57 (own_cod (by rfl) own_Lr3) (own_wid own_Lr3) (by decide) (pf_S_java_lang_String_COMPACT_STRINGS.ext f58.2) hcs (by decide) (by decide)) q49a q49c (g := (mkF m 35 #[rv st_] [(.ref sa44), (.ref st_)])) rfl (by rw [hml]; rfl) (Steps.refl _) (argsL := [(.ref sa44)]) (rest := []) (lenOf pd_8 rfl) rfl (by show 2 * 0 + _ ≤ _; exact Nat.le_of_eq rfl) (hb hby d8_35) (fun _ _ => ⟨rfl, e44, (by decide : 6 + 0 ≤ _), (by decide : 92 + 0 ≤ _)⟩)
      dsimp only [Pt.U, Pt.locs, Pt.cells, Pt.slots] at X49 l49 y49 z49 st49 hQ49
      rw [l49, y49, z49] at X49
      obtain ⟨hv49, hl49, K49q⟩ := hQ49
      rw [hl49, List.append_nil] at X49
      obtain rfl := own_pick hv49
      have pre59 : ∀ t, Steps p.tables e below (T49.setTop (mkF m 38 #[rv st_] [(.int (if cs_ = own_L3 then (1 : Int32) else (0 : Int32)))])) t → Steps p.tables e below (s₁.setTop (entryFrame m #[(.ref st_)] 1)) t := by
        intro t_ k_
        refine pre43 _ ?_
        show Steps p.tables e below (T28.setTop (mkF m 33 #[rv st_] [(.ref st_)])) _
        refine st44 _ ?_
        show Steps p.tables e below (T44.setTop (mkF m 35 #[rv st_] [(.ref sa44), (.ref st_)])) _
        refine st49.trans ?_
        exact k_
      by_cases hb60 : cs_ = own_L3
      · skip
        have q61 : (if cs_ = own_L3 then (1 : Int32) else (0 : Int32)) = (1 : Int32) := if_pos hb60
        obtain ⟨T62, X62, e62, st62⟩ := getS2 X49 hx hZ hown (host := "") (Or.inl wo101) Via.refl K49q (pf_S_com_example_iskati_iskati_entity_EntityField_TYPES.ext f58.2) (g := (mkF m 41 #[rv st_] [])) rfl (hb hby d8_41)
        obtain ⟨fs, hr, hrun, hended, -, hW1, hW2, hW3⟩ := X62.leaveW S44 (by rw [e62]; exact K44) (v := some (.ref s_TYPES)) (fun h => by rw [Bd.returns] at h; cases h)
        refine ⟨_, _, pre59 _ ?_, hrun, hended, _, _, rfl, ?_, (by show CHr Z consts_1 s.vm s.heap T62.vm T62.heap; rw [hh, e62]; exact CR46.trans (CHv.at (s := s) (vm0 := T44.vm) X62 hZ hEL CR46.1)), ⟨_, rfl⟩, hW1, hW2, hW3.mono (by decide) (by decide)⟩
        · show Steps p.tables e below (T49.setTop (mkF m 38 #[rv st_] [(.int (if cs_ = own_L3 then (1 : Int32) else (0 : Int32)))])) _
          rw [q61]
          show Steps p.tables e below (T49.setTop (mkF m 38 #[rv st_] [(.int (1 : Int32))])) _
          show Steps p.tables e below (T49.setTop (mkF m 38 #[rv st_] [(.int (1 : Int32))])) _
          refine XS.ifNo X49.here hx rfl (hb hby d8_38) rfl ((if0 _ _).trans (feq (by decide : ¬ ((1 : Int32) = (0 : Int32)))).1) ?_
          show Steps p.tables e below (T49.setTop (mkF m 41 #[rv st_] [])) _
          refine st62 _ ?_
          show Steps p.tables e below (T62.setTop (mkF m 44 #[rv st_] [(.ref s_TYPES)])) _
          exact retOut X62 hx Bd.returns rfl (Or.inr (Or.inr (Or.inr (Or.inr ⟨rfl, rfl, rfl⟩)))) (hb hby d8_44) hr
        · show Q_rmExp Z _ _ _ _ _ _ _ _ _ h0 n0 _ T62.heap _
          rw [e62]
          exact ⟨(by unfold own_pk; rw [if_neg hb18, if_neg hb39, if_pos hb60]), N0, (K47)⟩
      · skip
        have q63 : (if cs_ = own_L3 then (1 : Int32) else (0 : Int32)) = (0 : Int32) := if_neg hb60
        have pre64 : ∀ t, Steps p.tables e below (T49.setTop (mkF m 46 #[rv st_] [(.ref st_)])) t → Steps p.tables e below (s₁.setTop (entryFrame m #[(.ref st_)] 1)) t := by
          intro t_ k_
          refine pre59 _ ?_
          show Steps p.tables e below (T49.setTop (mkF m 38 #[rv st_] [(.int (if cs_ = own_L3 then (1 : Int32) else (0 : Int32)))])) _
          rw [q63]
          show Steps p.tables e below (T49.setTop (mkF m 38 #[rv st_] [(.int (0 : Int32))])) _
          show Steps p.tables e below (T49.setTop (mkF m 38 #[rv st_] [(.int (0 : Int32))])) _
          refine XS.ifYes X49.here hx rfl (pc0 := 38) (pc' := 45) rfl (hb hby d8_38) rfl ((if0 _ _).trans (teq (by decide : (0 : Int32) = (0 : Int32))).1) (by decide) (by decide) ?_
          show Steps p.tables e below (T49.setTop (mkF m 45 #[rv st_] [])) _
          refine XS.aloadN X49.here hx rfl (hb hby d8_45) rfl rfl ?_
          exact k_
        obtain ⟨sa65, T65, h65, k65, sb65, kb65, X65, e65, E65, S65, K65, hZ, hown, hE65, hC65, hV65, hA65, -, -, cc65, -, NS65, st65⟩ := ldcCH (s := s) (vm0 := T44.vm) X49 hx hZ hown wo82 (fun d hd => hw d ((by decide +kernel : ∀ d ∈ Bundle.stringAtoms, d ∈ tables_1) d hd)) K49q S44 K44 hEL (List.mem_of_getElem? (i := 4) rfl) CR46.1 (vs := (own_vs own_L4)) (z := 5) ⟨by decide, by rfl⟩ (by decide) (by decide) (g := (mkF m 46 #[rv st_] [(.ref st_)])) rfl (hb hby d8_46) (n := 20) (by decide) (by decide) (by decide) (by decide)
        have CS66 : CHr Z consts_1 T44.vm h44 T65.vm h65 := cc65
        have CR67 := CR46.trans CS66
        have K68 : Keep h0 h65 [] := (K47).ext E65
        have f69 : Av Z h65 sb65 .byte (5 : Int32) (own_vs own_L4) (.int (0 : Int32)) := ⟨kb65, hA65⟩
        have f73 := (f52.ext E65)
        obtain ⟨kv71, hv72⟩ := id f73
        have f74 := (f53.ext E65)
        have f75 := (f54.ext E65)
        have f76 := (f55.ext E65)
        obtain ⟨kv77, hv78⟩ := id f69
        have f79 := (f58.ext E65)
        have hws70 : ∀ d ∈ StrChars.Road.wordsEq, d.before a0 Z = true := fun d hd => hw d ((by decide +kernel : ∀ d ∈ StrChars.Road.wordsEq, d ∈ tables_1) d hd)
        obtain ⟨cq70, kq70, q70a, q70b, q70c⟩ := isOf hZ e65 f74
        obtain ⟨_, _, ⟨T70, L70, k70, n70⟩, -, X70, ⟨Lc70, hQ70, l70, y70, z70⟩, st70⟩ := X65.virtualBack hx (y := MN9) (z := MN9) hown (mvT hZ wo40) (mvT hZ wo41) (notFace_of_selects (args := #[]) (mvT hZ wo43)) (mvT hZ wo43) (mvT hZ wo42) (by decide) (StrChars.Road.eqW (W := 0) hZ hws70 (kI := 4) wo1 f74 f75 f76 hv72 (own_cod hns hrs) (own_wid hrs) hks hE65 hV65 hC65 hv78 (own_cod (by rfl) own_Lr4) (own_wid own_Lr4) (by decide) (pf_S_java_lang_String_COMPACT_STRINGS.ext f79.2) hcs (by decide) (by decide)) q70a q70c (g := (mkF m 48 #[rv st_] [(.ref sa65), (.ref st_)])) rfl (by rw [hml]; rfl) (Steps.refl _) (argsL := [(.ref sa65)]) (rest := []) (lenOf pd_8 rfl) rfl (by show 2 * 0 + _ ≤ _; exact Nat.le_of_eq rfl) (hb hby d8_48) (fun _ _ => ⟨rfl, e65, (by decide : 8 + 0 ≤ _), (by decide : 116 + 0 ≤ _)⟩)
        dsimp only [Pt.U, Pt.locs, Pt.cells, Pt.slots] at X70 l70 y70 z70 st70 hQ70
        rw [l70, y70, z70] at X70
        obtain ⟨hv70, hl70, K70q⟩ := hQ70
        rw [hl70, List.append_nil] at X70
        obtain rfl := own_pick hv70
        have pre80 : ∀ t, Steps p.tables e below (T70.setTop (mkF m 51 #[rv st_] [(.int (if cs_ = own_L4 then (1 : Int32) else (0 : Int32)))])) t → Steps p.tables e below (s₁.setTop (entryFrame m #[(.ref st_)] 1)) t := by
          intro t_ k_
          refine pre64 _ ?_
          show Steps p.tables e below (T49.setTop (mkF m 46 #[rv st_] [(.ref st_)])) _
          refine st65 _ ?_
          show Steps p.tables e below (T65.setTop (mkF m 48 #[rv st_] [(.ref sa65), (.ref st_)])) _
          refine st70.trans ?_
          exact k_
        by_cases hb81 : cs_ = own_L4
        · skip
          have q82 : (if cs_ = own_L4 then (1 : Int32) else (0 : Int32)) = (1 : Int32) := if_pos hb81
          obtain ⟨T83, X83, e83, st83⟩ := getS2 X70 hx hZ hown (host := "") (Or.inl wo96) Via.refl K70q (pf_S_com_example_iskati_iskati_entity_EntityField_LINKS.ext f79.2) (g := (mkF m 54 #[rv st_] [])) rfl (hb hby d8_54)
          obtain ⟨fs, hr, hrun, hended, -, hW1, hW2, hW3⟩ := X83.leaveW S65 (by rw [e83]; exact K65) (v := some (.ref s_LINKS)) (fun h => by rw [Bd.returns] at h; cases h)
          refine ⟨_, _, pre80 _ ?_, hrun, hended, _, _, rfl, ?_, (by show CHr Z consts_1 s.vm s.heap T83.vm T83.heap; rw [hh, e83]; exact CR67.trans (CHv.at (s := s) (vm0 := T65.vm) X83 hZ hEL CR67.1)), ⟨_, rfl⟩, hW1, hW2, hW3.mono (by decide) (by decide)⟩
          · show Steps p.tables e below (T70.setTop (mkF m 51 #[rv st_] [(.int (if cs_ = own_L4 then (1 : Int32) else (0 : Int32)))])) _
            rw [q82]
            show Steps p.tables e below (T70.setTop (mkF m 51 #[rv st_] [(.int (1 : Int32))])) _
            show Steps p.tables e below (T70.setTop (mkF m 51 #[rv st_] [(.int (1 : Int32))])) _
            refine XS.ifNo X70.here hx rfl (hb hby d8_51) rfl ((if0 _ _).trans (feq (by decide : ¬ ((1 : Int32) = (0 : Int32)))).1) ?_
            show Steps p.tables e below (T70.setTop (mkF m 54 #[rv st_] [])) _
            refine st83 _ ?_
            show Steps p.tables e below (T83.setTop (mkF m 57 #[rv st_] [(.ref s_LINKS)])) _
            exact retOut X83 hx Bd.returns rfl (Or.inr (Or.inr (Or.inr (Or.inr ⟨rfl, rfl, rfl⟩)))) (hb hby d8_57) hr
          · show Q_rmExp Z _ _ _ _ _ _ _ _ _ h0 n0 _ T83.heap _
            rw [e83]
            exact ⟨(by unfold own_pk; rw [if_neg hb18, if_neg hb39, if_neg hb60, if_pos hb81]), N0, (K68)⟩
        · skip
          have q84 : (if cs_ = own_L4 then (1 : Int32) else (0 : Int32)) = (0 : Int32) := if_neg hb81
          obtain ⟨fs, hr, hrun, hended, -, hW1, hW2, hW3⟩ := X70.leaveW S65 (by rw [K70q]; exact K65) (v := some .null) (fun h => by rw [Bd.returns] at h; cases h)
          refine ⟨_, _, pre80 _ ?_, hrun, hended, _, _, rfl, ?_, (by show CHr Z consts_1 s.vm s.heap T70.vm T70.heap; rw [hh, K70q]; exact CR67.trans (CHv.at (s := s) (vm0 := T65.vm) X70 hZ hEL CR67.1)), ⟨_, rfl⟩, hW1, hW2, hW3.mono (by decide) (by decide)⟩
          · show Steps p.tables e below (T70.setTop (mkF m 51 #[rv st_] [(.int (if cs_ = own_L4 then (1 : Int32) else (0 : Int32)))])) _
            rw [q84]
            show Steps p.tables e below (T70.setTop (mkF m 51 #[rv st_] [(.int (0 : Int32))])) _
            show Steps p.tables e below (T70.setTop (mkF m 51 #[rv st_] [(.int (0 : Int32))])) _
            refine XS.ifYes X70.here hx rfl (pc0 := 51) (pc' := 58) rfl (hb hby d8_51) rfl ((if0 _ _).trans (teq (by decide : (0 : Int32) = (0 : Int32))).1) (by decide) (by decide) ?_
            show Steps p.tables e below (T70.setTop (mkF m 58 #[rv st_] [])) _
            refine XS.aconstNull X70.here hx rfl (hb hby d8_58) ?_
            show Steps p.tables e below (T70.setTop (mkF m 59 #[rv st_] [.null])) _
            exact retOut X70 hx Bd.returns rfl (Or.inr (Or.inr (Or.inr (Or.inr ⟨rfl, rfl, rfl⟩)))) (hb hby d8_59) hr
          · show Q_rmExp Z _ _ _ _ _ _ _ _ _ h0 n0 _ T70.heap _
            rw [K70q]
            exact ⟨(by unfold own_pk; rw [if_neg hb18, if_neg hb39, if_neg hb60, if_neg hb81]), N0, (K68)⟩
theorem d8_4 : decode method_3_code 4 = .ok (.aconst_null, 1) := by decide +kernel
theorem d8_5 : decode method_3_code 5 = .ok (.areturn, 1) := by decide +kernel
theorem ef_rmExpN (m : MethodId)  : entryFrame m #[.null] 1 = mkF m 0 #[.val .null] [] := by first | (simp [entryFrame, mkF, argsToLocals, Value.category]; done) | rfl
def Q_rmExpN (Z : State)  (h0 : Heap) (n0 : Nat) (v : Option Value) (h : Heap) (L : List Loc) : Prop := v = some .null ∧ Fr n0 L ∧ h = h0
set_option maxRecDepth 65536 in
set_option maxHeartbeats 40000000 in
theorem rmExpN (l : Launch) (Z : State) (a0 : Array Value) (hw : ∀ d ∈ tables_1, d.before a0 Z = true) (ws : List Jvm.Cond)  (h0 : Heap) (n0 : Nat) (Z0 : n0 ≤ h0.size) :
    MetFree l (⟨"com/example/iskati/iskati/entity/EntityFieldNamedPinLaw", "expected", "(Ljava/lang/String;)Lcom/example/iskati/iskati/entity/EntityField;"⟩ : MethodName) (head1 (Jvm.Cond.code (⟨"com/example/iskati/iskati/entity/EntityFieldNamedPinLaw", "expected", "(Ljava/lang/String;)Lcom/example/iskati/iskati/entity/EntityField;"⟩ : MethodName) method_3_code 1 (some (.object "com/example/iskati/iskati/entity/EntityField")) :: ws) ({ frames := 0, cells := 0, slots := 0, locals := 0 } : Room)) (fun a U => a = #[.null] ∧ Z.Warmed39 U.vm ∧ U.heap = h0) (fun _ _ _ _ _ => True) (fun _ U o U' => ∃ v L, o = .returned v ∧ Q_rmExpN Z  h0 n0 v U'.heap L ∧ FrameEnd U o U' L ({ frames := 0, cells := 0, slots := 0, locals := 0 } : Room).cells ({ frames := 0, cells := 0, slots := 0, locals := 0 } : Room).slots) := by
  refine MetFree.of_bodySF (plainFor_of_name pn_com_example_iskati_iskati_entity_EntityFieldNamedPinLaw) hisR ?_
  intro p e s m args below meth c s₁ Bd hml0 hP hK
  obtain ⟨rfl, hZ, hh⟩ := hP
  have hx := Bd.exec
  have hby := Bd.bytes
  have hml : c.maxLocals = 1 := hml0
  have hown : s.vm.findClass "com/example/iskati/iskati/entity/EntityFieldNamedPinLaw" = some m.cls := findClass_of_methodNamed Bd.named
  have hnm := (name_of_methodNamed Bd.named Bd.method).1
  have X0 : Stand p l e ({ frames := 0, cells := 0, slots := 0, locals := 0 } : Room) s m #[.null] below meth c s₁ [] 0 0 := Stand.of_body Bd
  have e0 : s₁.heap = h0 := by rw [← hh, Bd.state]; rfl
  have N0 := Fr.nil n0
  have pre0 : ∀ t, Steps p.tables e below (s₁.setTop (mkF m 0 #[.val .null] [])) t → Steps p.tables e below (s₁.setTop (entryFrame m #[.null] 1)) t := fun t k => castTop (ef_rmExpN m ) k
  obtain ⟨fs, hr, hrun, hended, hW, hsame⟩ := X0.leave (v := some .null) (fun h => by rw [Bd.returns] at h; cases h)
  refine ⟨_, _, pre0 _ ?_, hrun, hended, _, _, rfl, ?_, ⟨_, rfl⟩, hW, hsame.mono (by decide) (by decide)⟩
  · show Steps p.tables e below (s₁.setTop (mkF m 0 #[.val .null] [])) _
    refine XS.aloadN X0.here hx rfl (hb hby d8_0) rfl rfl ?_
    show Steps p.tables e below (s₁.setTop (mkF m 1 #[.val .null] [.null])) _
    refine XS.ifnonnullNo X0.here hx rfl (hb hby d8_1) rfl ?_
    show Steps p.tables e below (s₁.setTop (mkF m 4 #[.val .null] [])) _
    refine XS.aconstNull X0.here hx rfl (hb hby d8_4) ?_
    show Steps p.tables e below (s₁.setTop (mkF m 5 #[.val .null] [.null])) _
    exact retOut X0 hx Bd.returns rfl (Or.inr (Or.inr (Or.inr (Or.inr ⟨rfl, rfl, rfl⟩)))) (hb hby d8_5) hr
  · show Q_rmExpN Z  h0 n0 _ s₁.heap _
    rw [e0]
    exact ⟨rfl, N0, rfl⟩
theorem d12_0 : decode prog_4_method_1_code 0 = .ok (.getstatic 16, 3) := by decide +kernel
theorem d12_3 : decode prog_4_method_1_code 3 = .ok (.invokevirtual 20, 3) := by decide +kernel
theorem d12_6 : decode prog_4_method_1_code 6 = .ok (.checkcast 21, 3) := by decide +kernel
theorem d12_9 : decode prog_4_method_1_code 9 = .ok (.areturn, 1) := by decide +kernel
theorem pn_com_example_iskati_iskati_entity_EntityField : plainName "com/example/iskati/iskati/entity/EntityField" = true := by first | (simp [plainName, overriddenIn]; done) | decide +kernel
theorem ef_rm12 (m : MethodId)  : entryFrame m #[] 0 = mkF m 0 #[] [] := by first | (simp [entryFrame, mkF, argsToLocals, Value.category]; done) | rfl
def Q_rm12 (Z : State) (s_VALUES : Addr) (s_NAMES : Addr) (s_ATTRIBUTES : Addr) (s_TYPES : Addr) (s_LINKS : Addr) (h0 : Heap) (n0 : Nat) (v : Option Value) (h : Heap) (L : List Loc) : Prop := ∃ (r : Addr), v = some (.ref r) ∧ Fr n0 L ∧ Keep h0 h [] ∧ (h0.size ≤ r) ∧ (Av Z h r (.object "com/example/iskati/iskati/entity/EntityField") (4 : Int32) [(.ref s_NAMES), (.ref s_ATTRIBUTES), (.ref s_TYPES), (.ref s_LINKS)] .null)
set_option maxRecDepth 65536 in
set_option maxHeartbeats 40000000 in
theorem rm12 (l : Launch) (Z : State) (a0 : Array Value) (hw : ∀ d ∈ tables_1, d.before a0 Z = true) (ws : List Jvm.Cond) (s_VALUES : Addr) (s_NAMES : Addr) (s_ATTRIBUTES : Addr) (s_TYPES : Addr) (s_LINKS : Addr) (h0 : Heap) (n0 : Nat) (Z0 : n0 ≤ h0.size) (pf_O : Old Z n0 h0) (pf_S_com_example_iskati_iskati_entity_EntityField__VALUES : Sta Z Z.heap "com/example/iskati/iskati/entity/EntityField" "$VALUES" "[Lcom/example/iskati/iskati/entity/EntityField;" (.ref s_VALUES)) (pf_E_s_VALUES : Exa Z h0 s_VALUES "[Lcom/example/iskati/iskati/entity/EntityField;") (pf_A_s_VALUES : Av Z h0 s_VALUES (.object "com/example/iskati/iskati/entity/EntityField") (4 : Int32) [(.ref s_NAMES), (.ref s_ATTRIBUTES), (.ref s_TYPES), (.ref s_LINKS)] .null) :
    MetFree l (⟨"com/example/iskati/iskati/entity/EntityField", "values", "()[Lcom/example/iskati/iskati/entity/EntityField;"⟩ : MethodName) (head1 (Jvm.Cond.code (⟨"com/example/iskati/iskati/entity/EntityField", "values", "()[Lcom/example/iskati/iskati/entity/EntityField;"⟩ : MethodName) prog_4_method_1_code 0 (some (.array (.object "com/example/iskati/iskati/entity/EntityField"))) :: ws) ({ frames := 1, cells := 1, slots := 4, locals := 14 } : Room)) (fun a U => a = #[] ∧ Z.Warmed39 U.vm ∧ U.heap = h0) (fun _ _ _ _ _ => True) (fun _ U o U' => ∃ v L, o = .returned v ∧ Q_rm12 Z s_VALUES s_NAMES s_ATTRIBUTES s_TYPES s_LINKS h0 n0 v U'.heap L ∧ FrameEnd U o U' L ({ frames := 1, cells := 1, slots := 4, locals := 14 } : Room).cells ({ frames := 1, cells := 1, slots := 4, locals := 14 } : Room).slots) := by
  refine MetFree.of_bodySF (plainFor_of_name pn_com_example_iskati_iskati_entity_EntityField) hisR ?_
  intro p e s m args below meth c s₁ Bd hml0 hP hK
  obtain ⟨rfl, hZ, hh⟩ := hP
  have hx := Bd.exec
  have hby := Bd.bytes
  have hml : c.maxLocals = 0 := hml0
  have hown : s.vm.findClass "com/example/iskati/iskati/entity/EntityField" = some m.cls := findClass_of_methodNamed Bd.named
  have hnm := (name_of_methodNamed Bd.named Bd.method).1
  have X0 : Stand p l e ({ frames := 1, cells := 1, slots := 4, locals := 14 } : Room) s m #[] below meth c s₁ [] 0 0 := Stand.of_body Bd
  have e0 : s₁.heap = h0 := by rw [← hh, Bd.state]; rfl
  have N0 := Fr.nil n0
  have pre0 : ∀ t, Steps p.tables e below (s₁.setTop (mkF m 0 #[] [])) t → Steps p.tables e below (s₁.setTop (entryFrame m #[] 0)) t := fun t k => castTop (ef_rm12 m ) k
  have wo59 := hw _ (List.mem_of_getElem? (i := 59) rfl)
  have wo61 := hw _ (List.mem_of_getElem? (i := 61) rfl)
  have wo62 := hw _ (List.mem_of_getElem? (i := 62) rfl)
  have wo64 := hw _ (List.mem_of_getElem? (i := 64) rfl)
  have wo65 := hw _ (List.mem_of_getElem? (i := 65) rfl)
  have wo66 := hw _ (List.mem_of_getElem? (i := 66) rfl)
  have wo67 := hw _ (List.mem_of_getElem? (i := 67) rfl)
  have wo72 := hw _ (List.mem_of_getElem? (i := 72) rfl)
  obtain ⟨T1, X1, e1, st1⟩ := getS2 X0 hx hZ hown (host := "") (Or.inl wo59) Via.refl e0 (pf_S_com_example_iskati_iskati_entity_EntityField__VALUES.ext pf_O.2) (g := (mkF m 0 #[] [])) rfl (hb hby d12_0)
  obtain ⟨kk2, Ac2⟩ := id pf_A_s_VALUES
  obtain ⟨T2, h2, X2, e2, E2, A2, B2, st2⟩ := cloneH X1 hx hZ hown wo61 wo62 wo66 wo64 wo65 wo67 e1 Ac2.arh pf_E_s_VALUES (g := (mkF m 3 #[] [(.ref s_VALUES)])) rfl (by rw [hml]; rfl) rfl (hb hby d12_3) (by decide) (W := 0) (cap := 4) (by show 2 * 0 + _ ≤ _; exact Nat.le_of_eq rfl) (by decide) (by decide) (by decide) (by decide)
  obtain ⟨b2, gg2⟩ : ∃ z, z = h0.size := ⟨_, rfl⟩
  rw [← gg2] at A2 B2 st2
  have ne3 : s_VALUES ≠ b2 := Nat.ne_of_lt (Nat.lt_of_lt_of_le pf_E_s_VALUES.lt (Nat.le_of_eq gg2.symm))
  have g4 : n0 ≤ b2 := Nat.le_trans Z0 (Nat.le_of_eq gg2.symm)
  have bz5 : h0.size ≤ b2 := Nat.le_trans (Keep.refl h0 []).1 (Nat.le_of_eq gg2.symm)
  have K6 : Keep h0 h2 [] := (Keep.refl h0 []).ext E2
  have f7 : Av Z h2 b2 (.object "com/example/iskati/iskati/entity/EntityField") (4 : Int32) [(.ref s_NAMES), (.ref s_ATTRIBUTES), (.ref s_TYPES), (.ref s_LINKS)] .null := ⟨_, A2⟩
  obtain ⟨T8, X8, e8, st8⟩ := castY X2 hx hZ hown wo72 e2 (Ins.self B2) (g := (mkF m 6 #[] [(.ref b2)])) rfl rfl (hb hby d12_6)
  obtain ⟨fs, hr, hrun, hended, hW, hsame⟩ := X8.leave (v := some (.ref b2)) (fun h => by rw [Bd.returns] at h; cases h)
  refine ⟨_, _, pre0 _ ?_, hrun, hended, _, _, rfl, ?_, ⟨_, rfl⟩, hW, hsame.mono (by decide) (by decide)⟩
  · show Steps p.tables e below (s₁.setTop (mkF m 0 #[] [])) _
    refine st1 _ ?_
    show Steps p.tables e below (T1.setTop (mkF m 3 #[] [(.ref s_VALUES)])) _
    refine st2 _ ?_
    show Steps p.tables e below (T2.setTop (mkF m 6 #[] [(.ref b2)])) _
    refine st8 _ ?_
    show Steps p.tables e below (T8.setTop (mkF m 9 #[] [(.ref b2)])) _
    exact retOut X8 hx Bd.returns rfl (Or.inr (Or.inr (Or.inr (Or.inr ⟨rfl, rfl, rfl⟩)))) (hb hby d12_9) hr
  · show Q_rm12 Z _ _ _ _ _ h0 n0 _ T8.heap _
    rw [e8]
    exact ⟨b2, rfl, N0, (K6), bz5, f7⟩
theorem pd_2 : parseMethodDescriptor "()[Lcom/example/iskati/iskati/entity/EntityField;" = some ⟨[], some (.array (.object "com/example/iskati/iskati/entity/EntityField"))⟩ := by decide +kernel
theorem d11_0 : decode prog_4_method_5_code 0 = .ok (.invokestatic 39, 3) := by decide +kernel
theorem d11_3 : decode prog_4_method_5_code 3 = .ok (.astore_n 1, 1) := by decide +kernel
theorem d11_4 : decode prog_4_method_5_code 4 = .ok (.aload_n 1, 1) := by decide +kernel
theorem d11_5 : decode prog_4_method_5_code 5 = .ok (.arraylength, 1) := by decide +kernel
theorem d11_6 : decode prog_4_method_5_code 6 = .ok (.istore_n 2, 1) := by decide +kernel
theorem d11_7 : decode prog_4_method_5_code 7 = .ok (.iconst 0, 1) := by decide +kernel
theorem d11_8 : decode prog_4_method_5_code 8 = .ok (.istore_n 3, 1) := by decide +kernel
theorem d11_9 : decode prog_4_method_5_code 9 = .ok (.iload_n 3, 1) := by decide +kernel
theorem d11_10 : decode prog_4_method_5_code 10 = .ok (.iload_n 2, 1) := by decide +kernel
theorem d11_11 : decode prog_4_method_5_code 11 = .ok (.if_icmp .ge 29, 3) := by decide +kernel
theorem d11_14 : decode prog_4_method_5_code 14 = .ok (.aload_n 1, 1) := by decide +kernel
theorem d11_15 : decode prog_4_method_5_code 15 = .ok (.iload_n 3, 1) := by decide +kernel
theorem d11_16 : decode prog_4_method_5_code 16 = .ok (.aaload, 1) := by decide +kernel
theorem d11_17 : decode prog_4_method_5_code 17 = .ok (.astore 4, 2) := by decide +kernel
theorem d11_19 : decode prog_4_method_5_code 19 = .ok (.aload 4, 2) := by decide +kernel
theorem d11_21 : decode prog_4_method_5_code 21 = .ok (.getfield 35, 3) := by decide +kernel
theorem d11_24 : decode prog_4_method_5_code 24 = .ok (.aload_n 0, 1) := by decide +kernel
theorem d11_25 : decode prog_4_method_5_code 25 = .ok (.invokevirtual 43, 3) := by decide +kernel
theorem d11_28 : decode prog_4_method_5_code 28 = .ok (.ifCond .eq 6, 3) := by decide +kernel
theorem d11_31 : decode prog_4_method_5_code 31 = .ok (.aload 4, 2) := by decide +kernel
theorem d11_33 : decode prog_4_method_5_code 33 = .ok (.areturn, 1) := by decide +kernel
theorem d11_34 : decode prog_4_method_5_code 34 = .ok (.iinc 3 1, 3) := by decide +kernel
theorem d11_37 : decode prog_4_method_5_code 37 = .ok (.goto (-28), 3) := by decide +kernel
theorem d11_40 : decode prog_4_method_5_code 40 = .ok (.aconst_null, 1) := by decide +kernel
theorem d11_41 : decode prog_4_method_5_code 41 = .ok (.areturn, 1) := by decide +kernel
theorem ef_rmNam (m : MethodId) (x0 : Addr) : entryFrame m #[(.ref x0)] 5 = mkF m 0 #[rv x0, .unset, .unset, .unset, .unset] [] := by first | (simp [entryFrame, mkF, argsToLocals, Value.category]; done) | rfl
def Q_rmNam (Z : State) (st_ : Addr) (sv_ : Addr) (sn_ : Int32) (cs_ : List Int32) (s_NAMES : Addr) (s_VALUES : Addr) (s_ATTRIBUTES : Addr) (s_TYPES : Addr) (s_LINKS : Addr) (s_NAMES_name : Addr) (s_NAMES_name_value : Addr) (s_ATTRIBUTES_name : Addr) (s_ATTRIBUTES_name_value : Addr) (s_TYPES_name : Addr) (s_TYPES_name_value : Addr) (s_LINKS_name : Addr) (s_LINKS_name_value : Addr) (cs : Int32) (h0 : Heap) (n0 : Nat) (v : Option Value) (h : Heap) (L : List Loc) : Prop := v = some (own_pk cs_ s_NAMES s_ATTRIBUTES s_TYPES s_LINKS) ∧ Fr n0 L ∧ Keep h0 h []
set_option maxRecDepth 65536 in
set_option maxHeartbeats 40000000 in
theorem rmNam (l : Launch) (Z : State) (a0 : Array Value) (hw : ∀ d ∈ tables_1, d.before a0 Z = true) (ws : List Jvm.Cond) (st_ : Addr) (sv_ : Addr) (sn_ : Int32) (cs_ : List Int32) (s_NAMES : Addr) (s_VALUES : Addr) (s_ATTRIBUTES : Addr) (s_TYPES : Addr) (s_LINKS : Addr) (s_NAMES_name : Addr) (s_NAMES_name_value : Addr) (s_ATTRIBUTES_name : Addr) (s_ATTRIBUTES_name_value : Addr) (s_TYPES_name : Addr) (s_TYPES_name_value : Addr) (s_LINKS_name : Addr) (s_LINKS_name_value : Addr) (cs : Int32) (h0 : Heap) (n0 : Nat) (Z0 : n0 ≤ h0.size) (pf_O : Old Z n0 h0) (pf_S_com_example_iskati_iskati_entity_EntityField_NAMES : Sta Z Z.heap "com/example/iskati/iskati/entity/EntityField" "NAMES" "Lcom/example/iskati/iskati/entity/EntityField;" (.ref s_NAMES)) (pf_E_s_NAMES : Exa Z h0 s_NAMES "com/example/iskati/iskati/entity/EntityField") (pf_S_com_example_iskati_iskati_entity_EntityField__VALUES : Sta Z Z.heap "com/example/iskati/iskati/entity/EntityField" "$VALUES" "[Lcom/example/iskati/iskati/entity/EntityField;" (.ref s_VALUES)) (pf_E_s_VALUES : Exa Z h0 s_VALUES "[Lcom/example/iskati/iskati/entity/EntityField;") (pf_S_com_example_iskati_iskati_entity_EntityField_ATTRIBUTES : Sta Z Z.heap "com/example/iskati/iskati/entity/EntityField" "ATTRIBUTES" "Lcom/example/iskati/iskati/entity/EntityField;" (.ref s_ATTRIBUTES)) (pf_E_s_ATTRIBUTES : Exa Z h0 s_ATTRIBUTES "com/example/iskati/iskati/entity/EntityField") (pf_S_com_example_iskati_iskati_entity_EntityField_TYPES : Sta Z Z.heap "com/example/iskati/iskati/entity/EntityField" "TYPES" "Lcom/example/iskati/iskati/entity/EntityField;" (.ref s_TYPES)) (pf_E_s_TYPES : Exa Z h0 s_TYPES "com/example/iskati/iskati/entity/EntityField") (pf_S_com_example_iskati_iskati_entity_EntityField_LINKS : Sta Z Z.heap "com/example/iskati/iskati/entity/EntityField" "LINKS" "Lcom/example/iskati/iskati/entity/EntityField;" (.ref s_LINKS)) (pf_E_s_LINKS : Exa Z h0 s_LINKS "com/example/iskati/iskati/entity/EntityField") (pf_F_s_NAMES_name : Fld Z h0 s_NAMES "com/example/iskati/iskati/entity/EntityField" "name" "Ljava/lang/String;" (.ref s_NAMES_name)) (pf_E_s_NAMES_name : Exa Z h0 s_NAMES_name "java/lang/String") (pf_F_s_NAMES_name_coder : Fld Z h0 s_NAMES_name "java/lang/String" "coder" "B" (.int (0 : Int32))) (pf_F_s_NAMES_name_value : Fld Z h0 s_NAMES_name "java/lang/String" "value" "[B" (.ref s_NAMES_name_value)) (pf_F_s_ATTRIBUTES_name : Fld Z h0 s_ATTRIBUTES "com/example/iskati/iskati/entity/EntityField" "name" "Ljava/lang/String;" (.ref s_ATTRIBUTES_name)) (pf_E_s_ATTRIBUTES_name : Exa Z h0 s_ATTRIBUTES_name "java/lang/String") (pf_F_s_ATTRIBUTES_name_coder : Fld Z h0 s_ATTRIBUTES_name "java/lang/String" "coder" "B" (.int (0 : Int32))) (pf_F_s_ATTRIBUTES_name_value : Fld Z h0 s_ATTRIBUTES_name "java/lang/String" "value" "[B" (.ref s_ATTRIBUTES_name_value)) (pf_F_s_TYPES_name : Fld Z h0 s_TYPES "com/example/iskati/iskati/entity/EntityField" "name" "Ljava/lang/String;" (.ref s_TYPES_name)) (pf_E_s_TYPES_name : Exa Z h0 s_TYPES_name "java/lang/String") (pf_F_s_TYPES_name_coder : Fld Z h0 s_TYPES_name "java/lang/String" "coder" "B" (.int (0 : Int32))) (pf_F_s_TYPES_name_value : Fld Z h0 s_TYPES_name "java/lang/String" "value" "[B" (.ref s_TYPES_name_value)) (pf_F_s_LINKS_name : Fld Z h0 s_LINKS "com/example/iskati/iskati/entity/EntityField" "name" "Ljava/lang/String;" (.ref s_LINKS_name)) (pf_E_s_LINKS_name : Exa Z h0 s_LINKS_name "java/lang/String") (pf_F_s_LINKS_name_coder : Fld Z h0 s_LINKS_name "java/lang/String" "coder" "B" (.int (0 : Int32))) (pf_F_s_LINKS_name_value : Fld Z h0 s_LINKS_name "java/lang/String" "value" "[B" (.ref s_LINKS_name_value)) (pf_A_s_VALUES : Av Z h0 s_VALUES (.object "com/example/iskati/iskati/entity/EntityField") (4 : Int32) [(.ref s_NAMES), (.ref s_ATTRIBUTES), (.ref s_TYPES), (.ref s_LINKS)] .null) (pf_A_s_NAMES_name_value : Av Z h0 s_NAMES_name_value .byte (5 : Int32) (own_vs own_L1) (.int (0 : Int32))) (pf_A_s_ATTRIBUTES_name_value : Av Z h0 s_ATTRIBUTES_name_value .byte (10 : Int32) (own_vs own_L2) (.int (0 : Int32))) (pf_A_s_TYPES_name_value : Av Z h0 s_TYPES_name_value .byte (5 : Int32) (own_vs own_L3) (.int (0 : Int32))) (pf_A_s_LINKS_name_value : Av Z h0 s_LINKS_name_value .byte (5 : Int32) (own_vs own_L4) (.int (0 : Int32))) (pf_S_java_lang_String_COMPACT_STRINGS : Sta Z Z.heap "java/lang/String" "COMPACT_STRINGS" "Z" (.int cs)) (hcs : ¬ (cs = (0 : Int32))) (pf_E_st_ : Exa Z h0 st_ "java/lang/String") (pf_F_st__value : Fld Z h0 st_ "java/lang/String" "value" "[B" (.ref sv_)) (pf_F_st__coder : Fld Z h0 st_ "java/lang/String" "coder" "B" (.int (0 : Int32))) (pf_A_sv_ : Av Z h0 sv_ .byte sn_ (own_vs cs_) (.int (0 : Int32))) (hns : sn_ = Int32.ofNat cs_.length) (hrs : ∀ c ∈ cs_, ¬ c < 0 ∧ ¬ (255 : Int32) < c) (hks : cs_.length ≤ 4000) :
    MetFree l (⟨"com/example/iskati/iskati/entity/EntityField", "named", "(Ljava/lang/String;)Lcom/example/iskati/iskati/entity/EntityField;"⟩ : MethodName) (head1 (Jvm.Cond.code (⟨"com/example/iskati/iskati/entity/EntityField", "named", "(Ljava/lang/String;)Lcom/example/iskati/iskati/entity/EntityField;"⟩ : MethodName) prog_4_method_5_code 5 (some (.object "com/example/iskati/iskati/entity/EntityField")) :: ws) ({ frames := 2, cells := 1, slots := 4, locals := 28 } : Room)) (fun a U => a = #[(.ref st_)] ∧ Z.Warmed39 U.vm ∧ U.heap = h0) (fun _ _ _ _ _ => True) (fun _ U o U' => ∃ v L, o = .returned v ∧ Q_rmNam Z st_ sv_ sn_ cs_ s_NAMES s_VALUES s_ATTRIBUTES s_TYPES s_LINKS s_NAMES_name s_NAMES_name_value s_ATTRIBUTES_name s_ATTRIBUTES_name_value s_TYPES_name s_TYPES_name_value s_LINKS_name s_LINKS_name_value cs h0 n0 v U'.heap L ∧ FrameEnd U o U' L ({ frames := 2, cells := 1, slots := 4, locals := 28 } : Room).cells ({ frames := 2, cells := 1, slots := 4, locals := 28 } : Room).slots) := by
  refine MetFree.of_bodySF (plainFor_of_name pn_com_example_iskati_iskati_entity_EntityField) hisR ?_
  intro p e s m args below meth c s₁ Bd hml0 hP hK
  obtain ⟨rfl, hZ, hh⟩ := hP
  have hx := Bd.exec
  have hby := Bd.bytes
  have hml : c.maxLocals = 5 := hml0
  have hown : s.vm.findClass "com/example/iskati/iskati/entity/EntityField" = some m.cls := findClass_of_methodNamed Bd.named
  have hnm := (name_of_methodNamed Bd.named Bd.method).1
  have X0 : Stand p l e ({ frames := 2, cells := 1, slots := 4, locals := 28 } : Room) s m #[(.ref st_)] below meth c s₁ [] 0 0 := Stand.of_body Bd
  have e0 : s₁.heap = h0 := by rw [← hh, Bd.state]; rfl
  have N0 := Fr.nil n0
  have pre0 : ∀ t, Steps p.tables e below (s₁.setTop (mkF m 0 #[rv st_, .unset, .unset, .unset, .unset] [])) t → Steps p.tables e below (s₁.setTop (entryFrame m #[(.ref st_)] 5)) t := fun t k => castTop (ef_rmNam m st_) k
  have wo1 := hw _ (List.mem_of_getElem? (i := 1) rfl)
  have wo41 := hw _ (List.mem_of_getElem? (i := 41) rfl)
  have wo42 := hw _ (List.mem_of_getElem? (i := 42) rfl)
  have wo43 := hw _ (List.mem_of_getElem? (i := 43) rfl)
  have wo51 := hw _ (List.mem_of_getElem? (i := 51) rfl)
  have wo56 := hw _ (List.mem_of_getElem? (i := 56) rfl)
  have wo57 := hw _ (List.mem_of_getElem? (i := 57) rfl)
  have wo58 := hw _ (List.mem_of_getElem? (i := 58) rfl)
  have wo74 := hw _ (List.mem_of_getElem? (i := 74) rfl)
  have wo76 := hw _ (List.mem_of_getElem? (i := 76) rfl)
  obtain ⟨_, _, ⟨T1, L1, k1, n1⟩, -, X1, ⟨Lc1, hQ1, l1, y1, z1⟩, st1⟩ := Jvm.LawKit.callS X0 hx (y := MN12) hown (mvT hZ wo56) (mvT hZ wo57) (mvT hZ wo51) (mvT hZ wo58) (by decide) (backOf (W := 0) (rm12 l Z a0 hw [] s_VALUES s_NAMES s_ATTRIBUTES s_TYPES s_LINKS h0 n0 Z0 pf_O pf_S_com_example_iskati_iskati_entity_EntityField__VALUES pf_E_s_VALUES pf_A_s_VALUES) hZ wo58 wo51 (by decide) (by decide)) (g := (mkF m 0 #[rv st_, .unset, .unset, .unset, .unset] [])) rfl (by rw [hml]; rfl) (argsL := []) (rest := []) (lenOf pd_2 rfl) rfl (by show 2 * 0 + _ ≤ _; exact Nat.le_of_eq rfl) (hb hby d11_0) (fun _ _ => ⟨rfl, e0, (by decide : 0 + 1 ≤ _), (by decide : 0 + 4 ≤ _)⟩)
  dsimp only [Pt.U, Pt.locs, Pt.cells, Pt.slots] at X1 l1 y1 z1 st1 hQ1
  rw [l1, y1, z1] at X1
  obtain ⟨r_1, rfl, N1q, K1q, hq1_0, hq1_1⟩ := hQ1
  have N2 := Fr.app N0 N1q
  have ne3 : st_ ≠ r_1 := Nat.ne_of_lt (Nat.lt_of_lt_of_le pf_E_st_.lt hq1_0)
  have ne4 : s_NAMES ≠ r_1 := Nat.ne_of_lt (Nat.lt_of_lt_of_le pf_E_s_NAMES.lt hq1_0)
  have ne5 : s_VALUES ≠ r_1 := Nat.ne_of_lt (Nat.lt_of_lt_of_le pf_E_s_VALUES.lt hq1_0)
  have ne6 : s_ATTRIBUTES ≠ r_1 := Nat.ne_of_lt (Nat.lt_of_lt_of_le pf_E_s_ATTRIBUTES.lt hq1_0)
  have ne7 : s_TYPES ≠ r_1 := Nat.ne_of_lt (Nat.lt_of_lt_of_le pf_E_s_TYPES.lt hq1_0)
  have ne8 : s_LINKS ≠ r_1 := Nat.ne_of_lt (Nat.lt_of_lt_of_le pf_E_s_LINKS.lt hq1_0)
  have ne9 : s_NAMES_name ≠ r_1 := Nat.ne_of_lt (Nat.lt_of_lt_of_le pf_E_s_NAMES_name.lt hq1_0)
  have ne10 : s_ATTRIBUTES_name ≠ r_1 := Nat.ne_of_lt (Nat.lt_of_lt_of_le pf_E_s_ATTRIBUTES_name.lt hq1_0)
  have ne11 : s_TYPES_name ≠ r_1 := Nat.ne_of_lt (Nat.lt_of_lt_of_le pf_E_s_TYPES_name.lt hq1_0)
  have ne12 : s_LINKS_name ≠ r_1 := Nat.ne_of_lt (Nat.lt_of_lt_of_le pf_E_s_LINKS_name.lt hq1_0)
  have ne13 : s_NAMES_name_value ≠ r_1 := Nat.ne_of_lt (Nat.lt_of_lt_of_le pf_A_s_NAMES_name_value.lt hq1_0)
  have ne14 : s_ATTRIBUTES_name_value ≠ r_1 := Nat.ne_of_lt (Nat.lt_of_lt_of_le pf_A_s_ATTRIBUTES_name_value.lt hq1_0)
  have ne15 : s_TYPES_name_value ≠ r_1 := Nat.ne_of_lt (Nat.lt_of_lt_of_le pf_A_s_TYPES_name_value.lt hq1_0)
  have ne16 : s_LINKS_name_value ≠ r_1 := Nat.ne_of_lt (Nat.lt_of_lt_of_le pf_A_s_LINKS_name_value.lt hq1_0)
  have ne17 : sv_ ≠ r_1 := Nat.ne_of_lt (Nat.lt_of_lt_of_le pf_A_sv_.lt hq1_0)
  have g18 : n0 ≤ r_1 := Nat.le_trans Z0 hq1_0
  have bz19 : h0.size ≤ r_1 := Nat.le_trans (Keep.refl h0 []).1 hq1_0
  have K20 : Keep h0 T1.heap [] := (Keep.refl h0 []).trans K1q all0
  obtain ⟨kk21, cl21, Ar21, qq21, Sz21, Nn21, Hs21, Gf21⟩ := id hq1_1
  obtain ⟨kk22, cl22, Ar22, qq22, Sz22, Nn22, Hs22, Gf22⟩ := id hq1_1
  have hin23 : ¬ ((0 : Int32) < 0 ∨ cl22.slots.size ≤ ((0 : Int32)).toNatClampNeg) := inb_of Sz22 ⟨by decide, by decide⟩
  have hat24 : cl22.slots[((0 : Int32)).toNatClampNeg]? = some (.ref s_NAMES) := Has.at Hs22 hin23 rfl
  have f25 := (pf_F_s_NAMES_name.keep K1q nin0)
  obtain ⟨T26, X26, e26, st26⟩ := getF X1 hx hZ hown (host := "") (Or.inl wo74) Via.refl rfl f25 (g := (mkF m 21 #[rv st_, rv r_1, iv (4 : Int32), iv (0 : Int32), rv s_NAMES] [(.ref s_NAMES)])) rfl rfl (hb hby d11_21)
  have f30 := (pf_A_s_NAMES_name_value.keep K1q nin0)
  obtain ⟨kv28, hv29⟩ := id f30
  have f31 := (pf_E_s_NAMES_name.keep K1q)
  have f32 := (pf_F_s_NAMES_name_value.keep K1q nin0)
  have f33 := (pf_F_s_NAMES_name_coder.keep K1q nin0)
  have f36 := (pf_A_sv_.keep K1q nin0)
  obtain ⟨kv34, hv35⟩ := id f36
  have f37 := (pf_E_st_.keep K1q)
  have f38 := (pf_F_st__value.keep K1q nin0)
  have f39 := (pf_F_st__coder.keep K1q nin0)
  have f40 := (pf_O.keep K1q all0)
  have hws27 : ∀ d ∈ StrChars.Road.wordsEq, d.before a0 Z = true := fun d hd => hw d ((by decide +kernel : ∀ d ∈ StrChars.Road.wordsEq, d ∈ tables_1) d hd)
  obtain ⟨cq27, kq27, q27a, q27b, q27c⟩ := isOf hZ e26 f31
  obtain ⟨_, _, ⟨T27, L27, k27, n27⟩, -, X27, ⟨Lc27, hQ27, l27, y27, z27⟩, st27⟩ := X26.virtualBack hx (y := MN9) (z := MN9) hown (mvT hZ wo76) (mvT hZ wo41) (notFace_of_selects (args := #[]) (mvT hZ wo43)) (mvT hZ wo43) (mvT hZ wo42) (by decide) (StrChars.Road.eqW (W := 0) hZ hws27 (kI := 4) wo1 f31 f32 f33 hv29 (own_cod (by rfl) own_Lr1) (own_wid own_Lr1) (by decide) f37 f38 f39 hv35 (own_cod hns hrs) (own_wid hrs) hks (pf_S_java_lang_String_COMPACT_STRINGS.ext f40.2) hcs (by decide) (by decide)) q27a q27c (g := (mkF m 25 #[rv st_, rv r_1, iv (4 : Int32), iv (0 : Int32), rv s_NAMES] [(.ref st_), (.ref s_NAMES_name)])) rfl (by rw [hml]; rfl) (Steps.refl _) (argsL := [(.ref st_)]) (rest := []) (lenOf pd_8 rfl) rfl (by show 2 * 0 + _ ≤ _; exact Nat.le_of_eq rfl) (hb hby d11_25) (fun _ _ => ⟨rfl, e26, (by decide : 1 + 0 ≤ _), (by decide : 4 + 0 ≤ _)⟩)
  dsimp only [Pt.U, Pt.locs, Pt.cells, Pt.slots] at X27 l27 y27 z27 st27 hQ27
  rw [l27, y27, z27] at X27
  obtain ⟨hv27, hl27, K27q⟩ := hQ27
  rw [hl27, List.append_nil] at X27
  obtain rfl := own_pick hv27
  have pre41 : ∀ t, Steps p.tables e below (T27.setTop (mkF m 28 #[rv st_, rv r_1, iv (4 : Int32), iv (0 : Int32), rv s_NAMES] [(.int (if own_L1 = cs_ then (1 : Int32) else (0 : Int32)))])) t → Steps p.tables e below (s₁.setTop (entryFrame m #[(.ref st_)] 5)) t := by
    intro t_ k_
    refine pre0 _ ?_
    show Steps p.tables e below (s₁.setTop (mkF m 0 #[rv st_, .unset, .unset, .unset, .unset] [])) _
    refine st1 _ ?_
    show Steps p.tables e below (T1.setTop (mkF m 3 #[rv st_, .unset, .unset, .unset, .unset] [(.ref r_1)])) _
    refine XS.astoreN X1.here hx rfl (hb hby d11_3) rfl rfl (l' := #[rv st_, rv r_1, .unset, .unset, .unset]) rfl ?_
    show Steps p.tables e below (T1.setTop (mkF m 4 #[rv st_, rv r_1, .unset, .unset, .unset] [])) _
    refine XS.aloadN X1.here hx rfl (hb hby d11_4) rfl rfl ?_
    show Steps p.tables e below (T1.setTop (mkF m 5 #[rv st_, rv r_1, .unset, .unset, .unset] [(.ref r_1)])) _
    refine X1.arraylength hx (Ar21.1) (State.isArrayOf_alike hZ.alike Ar21.2.1) (g := (mkF m 5 #[rv st_, rv r_1, .unset, .unset, .unset] [(.ref r_1)])) rfl rfl (hb hby d11_5) _ ?_
    rw [len_of Sz21 Nn21]
    show Steps p.tables e below (T1.setTop (mkF m 6 #[rv st_, rv r_1, .unset, .unset, .unset] [(.int (4 : Int32))])) _
    refine XS.istoreN X1.here hx rfl (hb hby d11_6) rfl (l' := #[rv st_, rv r_1, iv (4 : Int32), .unset, .unset]) rfl ?_
    show Steps p.tables e below (T1.setTop (mkF m 7 #[rv st_, rv r_1, iv (4 : Int32), .unset, .unset] [])) _
    refine XS.iconst X1.here hx rfl (hb hby d11_7) ?_
    show Steps p.tables e below (T1.setTop (mkF m 8 #[rv st_, rv r_1, iv (4 : Int32), .unset, .unset] [(.int (0 : Int32))])) _
    refine XS.istoreN X1.here hx rfl (hb hby d11_8) rfl (l' := #[rv st_, rv r_1, iv (4 : Int32), iv (0 : Int32), .unset]) rfl ?_
    show Steps p.tables e below (T1.setTop (mkF m 9 #[rv st_, rv r_1, iv (4 : Int32), iv (0 : Int32), .unset] [])) _
    refine XS.iloadN X1.here hx rfl (hb hby d11_9) rfl ?_
    show Steps p.tables e below (T1.setTop (mkF m 10 #[rv st_, rv r_1, iv (4 : Int32), iv (0 : Int32), .unset] [(.int (0 : Int32))])) _
    refine XS.iloadN X1.here hx rfl (hb hby d11_10) rfl ?_
    show Steps p.tables e below (T1.setTop (mkF m 11 #[rv st_, rv r_1, iv (4 : Int32), iv (0 : Int32), .unset] [(.int (4 : Int32)), (.int (0 : Int32))])) _
    refine XS.icmpNo X1.here hx rfl (hb hby d11_11) rfl (tlt (by decide : (0 : Int32) < (4 : Int32))).2.1 ?_
    show Steps p.tables e below (T1.setTop (mkF m 14 #[rv st_, rv r_1, iv (4 : Int32), iv (0 : Int32), .unset] [])) _
    refine XS.aloadN X1.here hx rfl (hb hby d11_14) rfl rfl ?_
    show Steps p.tables e below (T1.setTop (mkF m 15 #[rv st_, rv r_1, iv (4 : Int32), iv (0 : Int32), .unset] [(.ref r_1)])) _
    refine XS.iloadN X1.here hx rfl (hb hby d11_15) rfl ?_
    show Steps p.tables e below (T1.setTop (mkF m 16 #[rv st_, rv r_1, iv (4 : Int32), iv (0 : Int32), .unset] [(.int (0 : Int32)), (.ref r_1)])) _
    refine X1.aaload hx (j := (0 : Int32)) (v := (.ref s_NAMES)) (Ar22.1) (State.isArrayOf_alike hZ.alike Ar22.2.1) rfl Ar22.2.2 hin23 hat24 (g := (mkF m 16 #[rv st_, rv r_1, iv (4 : Int32), iv (0 : Int32), .unset] [(.int (0 : Int32)), (.ref r_1)])) rfl rfl (hb hby d11_16) _ ?_
    show Steps p.tables e below (T1.setTop (mkF m 17 #[rv st_, rv r_1, iv (4 : Int32), iv (0 : Int32), .unset] [(.ref s_NAMES)])) _
    refine XS.astore X1.here hx rfl (hb hby d11_17) rfl rfl (l' := #[rv st_, rv r_1, iv (4 : Int32), iv (0 : Int32), rv s_NAMES]) rfl ?_
    show Steps p.tables e below (T1.setTop (mkF m 19 #[rv st_, rv r_1, iv (4 : Int32), iv (0 : Int32), rv s_NAMES] [])) _
    refine XS.aload X1.here hx rfl (hb hby d11_19) rfl rfl ?_
    show Steps p.tables e below (T1.setTop (mkF m 21 #[rv st_, rv r_1, iv (4 : Int32), iv (0 : Int32), rv s_NAMES] [(.ref s_NAMES)])) _
    refine st26 _ ?_
    show Steps p.tables e below (T26.setTop (mkF m 24 #[rv st_, rv r_1, iv (4 : Int32), iv (0 : Int32), rv s_NAMES] [(.ref s_NAMES_name)])) _
    refine XS.aloadN X26.here hx rfl (hb hby d11_24) rfl rfl ?_
    show Steps p.tables e below (T26.setTop (mkF m 25 #[rv st_, rv r_1, iv (4 : Int32), iv (0 : Int32), rv s_NAMES] [(.ref st_), (.ref s_NAMES_name)])) _
    refine st27.trans ?_
    exact k_
  by_cases hb42 : cs_ = own_L1
  · skip
    have q43 : (if own_L1 = cs_ then (1 : Int32) else (0 : Int32)) = (1 : Int32) := if_pos hb42.symm
    obtain ⟨fs, hr, hrun, hended, hW, hsame⟩ := X27.leave (v := some (.ref s_NAMES)) (fun h => by rw [Bd.returns] at h; cases h)
    refine ⟨_, _, pre41 _ ?_, hrun, hended, _, _, rfl, ?_, ⟨_, rfl⟩, hW, hsame.mono (by decide) (by decide)⟩
    · show Steps p.tables e below (T27.setTop (mkF m 28 #[rv st_, rv r_1, iv (4 : Int32), iv (0 : Int32), rv s_NAMES] [(.int (if own_L1 = cs_ then (1 : Int32) else (0 : Int32)))])) _
      rw [q43]
      show Steps p.tables e below (T27.setTop (mkF m 28 #[rv st_, rv r_1, iv (4 : Int32), iv (0 : Int32), rv s_NAMES] [(.int (1 : Int32))])) _
      show Steps p.tables e below (T27.setTop (mkF m 28 #[rv st_, rv r_1, iv (4 : Int32), iv (0 : Int32), rv s_NAMES] [(.int (1 : Int32))])) _
      refine XS.ifNo X27.here hx rfl (hb hby d11_28) rfl ((if0 _ _).trans (feq (by decide : ¬ ((1 : Int32) = (0 : Int32)))).1) ?_
      show Steps p.tables e below (T27.setTop (mkF m 31 #[rv st_, rv r_1, iv (4 : Int32), iv (0 : Int32), rv s_NAMES] [])) _
      refine XS.aload X27.here hx rfl (hb hby d11_31) rfl rfl ?_
      show Steps p.tables e below (T27.setTop (mkF m 33 #[rv st_, rv r_1, iv (4 : Int32), iv (0 : Int32), rv s_NAMES] [(.ref s_NAMES)])) _
      exact retOut X27 hx Bd.returns rfl (Or.inr (Or.inr (Or.inr (Or.inr ⟨rfl, rfl, rfl⟩)))) (hb hby d11_33) hr
    · show Q_rmNam Z _ _ _ _ _ _ _ _ _ _ _ _ _ _ _ _ _ _ h0 n0 _ T27.heap _
      rw [K27q]
      exact ⟨(by unfold own_pk; rw [if_pos hb42]), N2, (K20)⟩
  · skip
    have q44 : (if own_L1 = cs_ then (1 : Int32) else (0 : Int32)) = (0 : Int32) := if_neg (fun q => hb42 q.symm)
    obtain ⟨kk45, cl45, Ar45, qq45, Sz45, Nn45, Hs45, Gf45⟩ := id hq1_1
    have hin46 : ¬ ((1 : Int32) < 0 ∨ cl45.slots.size ≤ ((1 : Int32)).toNatClampNeg) := inb_of Sz45 ⟨by decide, by decide⟩
    have hat47 : cl45.slots[((1 : Int32)).toNatClampNeg]? = some (.ref s_ATTRIBUTES) := Has.at Hs45 hin46 rfl
    have f48 := (pf_F_s_ATTRIBUTES_name.keep K1q nin0)
    obtain ⟨T49, X49, e49, st49⟩ := getF X27 hx hZ hown (host := "") (Or.inl wo74) Via.refl K27q f48 (g := (mkF m 21 #[rv st_, rv r_1, iv (4 : Int32), iv (1 : Int32), rv s_ATTRIBUTES] [(.ref s_ATTRIBUTES)])) rfl rfl (hb hby d11_21)
    have f53 := (pf_A_s_ATTRIBUTES_name_value.keep K1q nin0)
    obtain ⟨kv51, hv52⟩ := id f53
    have f54 := (pf_E_s_ATTRIBUTES_name.keep K1q)
    have f55 := (pf_F_s_ATTRIBUTES_name_value.keep K1q nin0)
    have f56 := (pf_F_s_ATTRIBUTES_name_coder.keep K1q nin0)
    obtain ⟨kv57, hv58⟩ := id f36
    have hws50 : ∀ d ∈ StrChars.Road.wordsEq, d.before a0 Z = true := fun d hd => hw d ((by decide +kernel : ∀ d ∈ StrChars.Road.wordsEq, d ∈ tables_1) d hd)
    obtain ⟨cq50, kq50, q50a, q50b, q50c⟩ := isOf hZ e49 f54
    obtain ⟨_, _, ⟨T50, L50, k50, n50⟩, -, X50, ⟨Lc50, hQ50, l50, y50, z50⟩, st50⟩ := X49.virtualBack hx (y := MN9) (z := MN9) hown (mvT hZ wo76) (mvT hZ wo41) (notFace_of_selects (args := #[]) (mvT hZ wo43)) (mvT hZ wo43) (mvT hZ wo42) (by decide) (StrChars.Road.eqW (W := 0) hZ hws50 (kI := 4) wo1 f54 f55 f56 hv52 (own_cod (by rfl) own_Lr2) (own_wid own_Lr2) (by decide) f37 f38 f39 hv58 (own_cod hns hrs) (own_wid hrs) hks (pf_S_java_lang_String_COMPACT_STRINGS.ext f40.2) hcs (by decide) (by decide)) q50a q50c (g := (mkF m 25 #[rv st_, rv r_1, iv (4 : Int32), iv (1 : Int32), rv s_ATTRIBUTES] [(.ref st_), (.ref s_ATTRIBUTES_name)])) rfl (by rw [hml]; rfl) (Steps.refl _) (argsL := [(.ref st_)]) (rest := []) (lenOf pd_8 rfl) rfl (by show 2 * 0 + _ ≤ _; exact Nat.le_of_eq rfl) (hb hby d11_25) (fun _ _ => ⟨rfl, e49, (by decide : 1 + 0 ≤ _), (by decide : 4 + 0 ≤ _)⟩)
    dsimp only [Pt.U, Pt.locs, Pt.cells, Pt.slots] at X50 l50 y50 z50 st50 hQ50
    rw [l50, y50, z50] at X50
    obtain ⟨hv50, hl50, K50q⟩ := hQ50
    rw [hl50, List.append_nil] at X50
    obtain rfl := own_pick hv50
    have pre59 : ∀ t, Steps p.tables e below (T50.setTop (mkF m 28 #[rv st_, rv r_1, iv (4 : Int32), iv (1 : Int32), rv s_ATTRIBUTES] [(.int (if own_L2 = cs_ then (1 : Int32) else (0 : Int32)))])) t → Steps p.tables e below (s₁.setTop (entryFrame m #[(.ref st_)] 5)) t := by
      intro t_ k_
      refine pre41 _ ?_
      show Steps p.tables e below (T27.setTop (mkF m 28 #[rv st_, rv r_1, iv (4 : Int32), iv (0 : Int32), rv s_NAMES] [(.int (if own_L1 = cs_ then (1 : Int32) else (0 : Int32)))])) _
      rw [q44]
      show Steps p.tables e below (T27.setTop (mkF m 28 #[rv st_, rv r_1, iv (4 : Int32), iv (0 : Int32), rv s_NAMES] [(.int (0 : Int32))])) _
      show Steps p.tables e below (T27.setTop (mkF m 28 #[rv st_, rv r_1, iv (4 : Int32), iv (0 : Int32), rv s_NAMES] [(.int (0 : Int32))])) _
      refine XS.ifYes X27.here hx rfl (pc0 := 28) (pc' := 34) rfl (hb hby d11_28) rfl ((if0 _ _).trans (teq (by decide : (0 : Int32) = (0 : Int32))).1) (by decide) (by decide) ?_
      show Steps p.tables e below (T27.setTop (mkF m 34 #[rv st_, rv r_1, iv (4 : Int32), iv (0 : Int32), rv s_NAMES] [])) _
      refine XS.iinc X27.here hx rfl (hb hby d11_34) rfl (l' := #[rv st_, rv r_1, iv (4 : Int32), iv (1 : Int32), rv s_NAMES]) rfl ?_
      show Steps p.tables e below (T27.setTop (mkF m 37 #[rv st_, rv r_1, iv (4 : Int32), iv (1 : Int32), rv s_NAMES] [])) _
      refine XS.goto X27.here hx rfl (pc0 := 37) (pc' := 9) rfl (hb hby d11_37) (by decide) (by decide) ?_
      show Steps p.tables e below (T27.setTop (mkF m 9 #[rv st_, rv r_1, iv (4 : Int32), iv (1 : Int32), rv s_NAMES] [])) _
      refine XS.iloadN X27.here hx rfl (hb hby d11_9) rfl ?_
      show Steps p.tables e below (T27.setTop (mkF m 10 #[rv st_, rv r_1, iv (4 : Int32), iv (1 : Int32), rv s_NAMES] [(.int (1 : Int32))])) _
      refine XS.iloadN X27.here hx rfl (hb hby d11_10) rfl ?_
      show Steps p.tables e below (T27.setTop (mkF m 11 #[rv st_, rv r_1, iv (4 : Int32), iv (1 : Int32), rv s_NAMES] [(.int (4 : Int32)), (.int (1 : Int32))])) _
      refine XS.icmpNo X27.here hx rfl (hb hby d11_11) rfl (tlt (by decide : (1 : Int32) < (4 : Int32))).2.1 ?_
      show Steps p.tables e below (T27.setTop (mkF m 14 #[rv st_, rv r_1, iv (4 : Int32), iv (1 : Int32), rv s_NAMES] [])) _
      refine XS.aloadN X27.here hx rfl (hb hby d11_14) rfl rfl ?_
      show Steps p.tables e below (T27.setTop (mkF m 15 #[rv st_, rv r_1, iv (4 : Int32), iv (1 : Int32), rv s_NAMES] [(.ref r_1)])) _
      refine XS.iloadN X27.here hx rfl (hb hby d11_15) rfl ?_
      show Steps p.tables e below (T27.setTop (mkF m 16 #[rv st_, rv r_1, iv (4 : Int32), iv (1 : Int32), rv s_NAMES] [(.int (1 : Int32)), (.ref r_1)])) _
      refine X27.aaload hx (j := (1 : Int32)) (v := (.ref s_ATTRIBUTES)) (by rw [K27q]; exact Ar45.1) (State.isArrayOf_alike hZ.alike Ar45.2.1) rfl Ar45.2.2 hin46 hat47 (g := (mkF m 16 #[rv st_, rv r_1, iv (4 : Int32), iv (1 : Int32), rv s_NAMES] [(.int (1 : Int32)), (.ref r_1)])) rfl rfl (hb hby d11_16) _ ?_
      show Steps p.tables e below (T27.setTop (mkF m 17 #[rv st_, rv r_1, iv (4 : Int32), iv (1 : Int32), rv s_NAMES] [(.ref s_ATTRIBUTES)])) _
      refine XS.astore X27.here hx rfl (hb hby d11_17) rfl rfl (l' := #[rv st_, rv r_1, iv (4 : Int32), iv (1 : Int32), rv s_ATTRIBUTES]) rfl ?_
      show Steps p.tables e below (T27.setTop (mkF m 19 #[rv st_, rv r_1, iv (4 : Int32), iv (1 : Int32), rv s_ATTRIBUTES] [])) _
      refine XS.aload X27.here hx rfl (hb hby d11_19) rfl rfl ?_
      show Steps p.tables e below (T27.setTop (mkF m 21 #[rv st_, rv r_1, iv (4 : Int32), iv (1 : Int32), rv s_ATTRIBUTES] [(.ref s_ATTRIBUTES)])) _
      refine st49 _ ?_
      show Steps p.tables e below (T49.setTop (mkF m 24 #[rv st_, rv r_1, iv (4 : Int32), iv (1 : Int32), rv s_ATTRIBUTES] [(.ref s_ATTRIBUTES_name)])) _
      refine XS.aloadN X49.here hx rfl (hb hby d11_24) rfl rfl ?_
      show Steps p.tables e below (T49.setTop (mkF m 25 #[rv st_, rv r_1, iv (4 : Int32), iv (1 : Int32), rv s_ATTRIBUTES] [(.ref st_), (.ref s_ATTRIBUTES_name)])) _
      refine st50.trans ?_
      exact k_
    by_cases hb60 : cs_ = own_L2
    · skip
      have q61 : (if own_L2 = cs_ then (1 : Int32) else (0 : Int32)) = (1 : Int32) := if_pos hb60.symm
      obtain ⟨fs, hr, hrun, hended, hW, hsame⟩ := X50.leave (v := some (.ref s_ATTRIBUTES)) (fun h => by rw [Bd.returns] at h; cases h)
      refine ⟨_, _, pre59 _ ?_, hrun, hended, _, _, rfl, ?_, ⟨_, rfl⟩, hW, hsame.mono (by decide) (by decide)⟩
      · show Steps p.tables e below (T50.setTop (mkF m 28 #[rv st_, rv r_1, iv (4 : Int32), iv (1 : Int32), rv s_ATTRIBUTES] [(.int (if own_L2 = cs_ then (1 : Int32) else (0 : Int32)))])) _
        rw [q61]
        show Steps p.tables e below (T50.setTop (mkF m 28 #[rv st_, rv r_1, iv (4 : Int32), iv (1 : Int32), rv s_ATTRIBUTES] [(.int (1 : Int32))])) _
        show Steps p.tables e below (T50.setTop (mkF m 28 #[rv st_, rv r_1, iv (4 : Int32), iv (1 : Int32), rv s_ATTRIBUTES] [(.int (1 : Int32))])) _
        refine XS.ifNo X50.here hx rfl (hb hby d11_28) rfl ((if0 _ _).trans (feq (by decide : ¬ ((1 : Int32) = (0 : Int32)))).1) ?_
        show Steps p.tables e below (T50.setTop (mkF m 31 #[rv st_, rv r_1, iv (4 : Int32), iv (1 : Int32), rv s_ATTRIBUTES] [])) _
        refine XS.aload X50.here hx rfl (hb hby d11_31) rfl rfl ?_
        show Steps p.tables e below (T50.setTop (mkF m 33 #[rv st_, rv r_1, iv (4 : Int32), iv (1 : Int32), rv s_ATTRIBUTES] [(.ref s_ATTRIBUTES)])) _
        exact retOut X50 hx Bd.returns rfl (Or.inr (Or.inr (Or.inr (Or.inr ⟨rfl, rfl, rfl⟩)))) (hb hby d11_33) hr
      · show Q_rmNam Z _ _ _ _ _ _ _ _ _ _ _ _ _ _ _ _ _ _ h0 n0 _ T50.heap _
        rw [K50q]
        exact ⟨(by unfold own_pk; rw [if_neg hb42, if_pos hb60]), N2, (K20)⟩
    · skip
      have q62 : (if own_L2 = cs_ then (1 : Int32) else (0 : Int32)) = (0 : Int32) := if_neg (fun q => hb60 q.symm)
      obtain ⟨kk63, cl63, Ar63, qq63, Sz63, Nn63, Hs63, Gf63⟩ := id hq1_1
      have hin64 : ¬ ((2 : Int32) < 0 ∨ cl63.slots.size ≤ ((2 : Int32)).toNatClampNeg) := inb_of Sz63 ⟨by decide, by decide⟩
      have hat65 : cl63.slots[((2 : Int32)).toNatClampNeg]? = some (.ref s_TYPES) := Has.at Hs63 hin64 rfl
      have f66 := (pf_F_s_TYPES_name.keep K1q nin0)
      obtain ⟨T67, X67, e67, st67⟩ := getF X50 hx hZ hown (host := "") (Or.inl wo74) Via.refl K50q f66 (g := (mkF m 21 #[rv st_, rv r_1, iv (4 : Int32), iv (2 : Int32), rv s_TYPES] [(.ref s_TYPES)])) rfl rfl (hb hby d11_21)
      have f71 := (pf_A_s_TYPES_name_value.keep K1q nin0)
      obtain ⟨kv69, hv70⟩ := id f71
      have f72 := (pf_E_s_TYPES_name.keep K1q)
      have f73 := (pf_F_s_TYPES_name_value.keep K1q nin0)
      have f74 := (pf_F_s_TYPES_name_coder.keep K1q nin0)
      obtain ⟨kv75, hv76⟩ := id f36
      have hws68 : ∀ d ∈ StrChars.Road.wordsEq, d.before a0 Z = true := fun d hd => hw d ((by decide +kernel : ∀ d ∈ StrChars.Road.wordsEq, d ∈ tables_1) d hd)
      obtain ⟨cq68, kq68, q68a, q68b, q68c⟩ := isOf hZ e67 f72
      obtain ⟨_, _, ⟨T68, L68, k68, n68⟩, -, X68, ⟨Lc68, hQ68, l68, y68, z68⟩, st68⟩ := X67.virtualBack hx (y := MN9) (z := MN9) hown (mvT hZ wo76) (mvT hZ wo41) (notFace_of_selects (args := #[]) (mvT hZ wo43)) (mvT hZ wo43) (mvT hZ wo42) (by decide) (StrChars.Road.eqW (W := 0) hZ hws68 (kI := 4) wo1 f72 f73 f74 hv70 (own_cod (by rfl) own_Lr3) (own_wid own_Lr3) (by decide) f37 f38 f39 hv76 (own_cod hns hrs) (own_wid hrs) hks (pf_S_java_lang_String_COMPACT_STRINGS.ext f40.2) hcs (by decide) (by decide)) q68a q68c (g := (mkF m 25 #[rv st_, rv r_1, iv (4 : Int32), iv (2 : Int32), rv s_TYPES] [(.ref st_), (.ref s_TYPES_name)])) rfl (by rw [hml]; rfl) (Steps.refl _) (argsL := [(.ref st_)]) (rest := []) (lenOf pd_8 rfl) rfl (by show 2 * 0 + _ ≤ _; exact Nat.le_of_eq rfl) (hb hby d11_25) (fun _ _ => ⟨rfl, e67, (by decide : 1 + 0 ≤ _), (by decide : 4 + 0 ≤ _)⟩)
      dsimp only [Pt.U, Pt.locs, Pt.cells, Pt.slots] at X68 l68 y68 z68 st68 hQ68
      rw [l68, y68, z68] at X68
      obtain ⟨hv68, hl68, K68q⟩ := hQ68
      rw [hl68, List.append_nil] at X68
      obtain rfl := own_pick hv68
      have pre77 : ∀ t, Steps p.tables e below (T68.setTop (mkF m 28 #[rv st_, rv r_1, iv (4 : Int32), iv (2 : Int32), rv s_TYPES] [(.int (if own_L3 = cs_ then (1 : Int32) else (0 : Int32)))])) t → Steps p.tables e below (s₁.setTop (entryFrame m #[(.ref st_)] 5)) t := by
        intro t_ k_
        refine pre59 _ ?_
        show Steps p.tables e below (T50.setTop (mkF m 28 #[rv st_, rv r_1, iv (4 : Int32), iv (1 : Int32), rv s_ATTRIBUTES] [(.int (if own_L2 = cs_ then (1 : Int32) else (0 : Int32)))])) _
        rw [q62]
        show Steps p.tables e below (T50.setTop (mkF m 28 #[rv st_, rv r_1, iv (4 : Int32), iv (1 : Int32), rv s_ATTRIBUTES] [(.int (0 : Int32))])) _
        show Steps p.tables e below (T50.setTop (mkF m 28 #[rv st_, rv r_1, iv (4 : Int32), iv (1 : Int32), rv s_ATTRIBUTES] [(.int (0 : Int32))])) _
        refine XS.ifYes X50.here hx rfl (pc0 := 28) (pc' := 34) rfl (hb hby d11_28) rfl ((if0 _ _).trans (teq (by decide : (0 : Int32) = (0 : Int32))).1) (by decide) (by decide) ?_
        show Steps p.tables e below (T50.setTop (mkF m 34 #[rv st_, rv r_1, iv (4 : Int32), iv (1 : Int32), rv s_ATTRIBUTES] [])) _
        refine XS.iinc X50.here hx rfl (hb hby d11_34) rfl (l' := #[rv st_, rv r_1, iv (4 : Int32), iv (2 : Int32), rv s_ATTRIBUTES]) rfl ?_
        show Steps p.tables e below (T50.setTop (mkF m 37 #[rv st_, rv r_1, iv (4 : Int32), iv (2 : Int32), rv s_ATTRIBUTES] [])) _
        refine XS.goto X50.here hx rfl (pc0 := 37) (pc' := 9) rfl (hb hby d11_37) (by decide) (by decide) ?_
        show Steps p.tables e below (T50.setTop (mkF m 9 #[rv st_, rv r_1, iv (4 : Int32), iv (2 : Int32), rv s_ATTRIBUTES] [])) _
        refine XS.iloadN X50.here hx rfl (hb hby d11_9) rfl ?_
        show Steps p.tables e below (T50.setTop (mkF m 10 #[rv st_, rv r_1, iv (4 : Int32), iv (2 : Int32), rv s_ATTRIBUTES] [(.int (2 : Int32))])) _
        refine XS.iloadN X50.here hx rfl (hb hby d11_10) rfl ?_
        show Steps p.tables e below (T50.setTop (mkF m 11 #[rv st_, rv r_1, iv (4 : Int32), iv (2 : Int32), rv s_ATTRIBUTES] [(.int (4 : Int32)), (.int (2 : Int32))])) _
        refine XS.icmpNo X50.here hx rfl (hb hby d11_11) rfl (tlt (by decide : (2 : Int32) < (4 : Int32))).2.1 ?_
        show Steps p.tables e below (T50.setTop (mkF m 14 #[rv st_, rv r_1, iv (4 : Int32), iv (2 : Int32), rv s_ATTRIBUTES] [])) _
        refine XS.aloadN X50.here hx rfl (hb hby d11_14) rfl rfl ?_
        show Steps p.tables e below (T50.setTop (mkF m 15 #[rv st_, rv r_1, iv (4 : Int32), iv (2 : Int32), rv s_ATTRIBUTES] [(.ref r_1)])) _
        refine XS.iloadN X50.here hx rfl (hb hby d11_15) rfl ?_
        show Steps p.tables e below (T50.setTop (mkF m 16 #[rv st_, rv r_1, iv (4 : Int32), iv (2 : Int32), rv s_ATTRIBUTES] [(.int (2 : Int32)), (.ref r_1)])) _
        refine X50.aaload hx (j := (2 : Int32)) (v := (.ref s_TYPES)) (by rw [K50q]; exact Ar63.1) (State.isArrayOf_alike hZ.alike Ar63.2.1) rfl Ar63.2.2 hin64 hat65 (g := (mkF m 16 #[rv st_, rv r_1, iv (4 : Int32), iv (2 : Int32), rv s_ATTRIBUTES] [(.int (2 : Int32)), (.ref r_1)])) rfl rfl (hb hby d11_16) _ ?_
        show Steps p.tables e below (T50.setTop (mkF m 17 #[rv st_, rv r_1, iv (4 : Int32), iv (2 : Int32), rv s_ATTRIBUTES] [(.ref s_TYPES)])) _
        refine XS.astore X50.here hx rfl (hb hby d11_17) rfl rfl (l' := #[rv st_, rv r_1, iv (4 : Int32), iv (2 : Int32), rv s_TYPES]) rfl ?_
        show Steps p.tables e below (T50.setTop (mkF m 19 #[rv st_, rv r_1, iv (4 : Int32), iv (2 : Int32), rv s_TYPES] [])) _
        refine XS.aload X50.here hx rfl (hb hby d11_19) rfl rfl ?_
        show Steps p.tables e below (T50.setTop (mkF m 21 #[rv st_, rv r_1, iv (4 : Int32), iv (2 : Int32), rv s_TYPES] [(.ref s_TYPES)])) _
        refine st67 _ ?_
        show Steps p.tables e below (T67.setTop (mkF m 24 #[rv st_, rv r_1, iv (4 : Int32), iv (2 : Int32), rv s_TYPES] [(.ref s_TYPES_name)])) _
        refine XS.aloadN X67.here hx rfl (hb hby d11_24) rfl rfl ?_
        show Steps p.tables e below (T67.setTop (mkF m 25 #[rv st_, rv r_1, iv (4 : Int32), iv (2 : Int32), rv s_TYPES] [(.ref st_), (.ref s_TYPES_name)])) _
        refine st68.trans ?_
        exact k_
      by_cases hb78 : cs_ = own_L3
      · skip
        have q79 : (if own_L3 = cs_ then (1 : Int32) else (0 : Int32)) = (1 : Int32) := if_pos hb78.symm
        obtain ⟨fs, hr, hrun, hended, hW, hsame⟩ := X68.leave (v := some (.ref s_TYPES)) (fun h => by rw [Bd.returns] at h; cases h)
        refine ⟨_, _, pre77 _ ?_, hrun, hended, _, _, rfl, ?_, ⟨_, rfl⟩, hW, hsame.mono (by decide) (by decide)⟩
        · show Steps p.tables e below (T68.setTop (mkF m 28 #[rv st_, rv r_1, iv (4 : Int32), iv (2 : Int32), rv s_TYPES] [(.int (if own_L3 = cs_ then (1 : Int32) else (0 : Int32)))])) _
          rw [q79]
          show Steps p.tables e below (T68.setTop (mkF m 28 #[rv st_, rv r_1, iv (4 : Int32), iv (2 : Int32), rv s_TYPES] [(.int (1 : Int32))])) _
          show Steps p.tables e below (T68.setTop (mkF m 28 #[rv st_, rv r_1, iv (4 : Int32), iv (2 : Int32), rv s_TYPES] [(.int (1 : Int32))])) _
          refine XS.ifNo X68.here hx rfl (hb hby d11_28) rfl ((if0 _ _).trans (feq (by decide : ¬ ((1 : Int32) = (0 : Int32)))).1) ?_
          show Steps p.tables e below (T68.setTop (mkF m 31 #[rv st_, rv r_1, iv (4 : Int32), iv (2 : Int32), rv s_TYPES] [])) _
          refine XS.aload X68.here hx rfl (hb hby d11_31) rfl rfl ?_
          show Steps p.tables e below (T68.setTop (mkF m 33 #[rv st_, rv r_1, iv (4 : Int32), iv (2 : Int32), rv s_TYPES] [(.ref s_TYPES)])) _
          exact retOut X68 hx Bd.returns rfl (Or.inr (Or.inr (Or.inr (Or.inr ⟨rfl, rfl, rfl⟩)))) (hb hby d11_33) hr
        · show Q_rmNam Z _ _ _ _ _ _ _ _ _ _ _ _ _ _ _ _ _ _ h0 n0 _ T68.heap _
          rw [K68q]
          exact ⟨(by unfold own_pk; rw [if_neg hb42, if_neg hb60, if_pos hb78]), N2, (K20)⟩
      · skip
        have q80 : (if own_L3 = cs_ then (1 : Int32) else (0 : Int32)) = (0 : Int32) := if_neg (fun q => hb78 q.symm)
        obtain ⟨kk81, cl81, Ar81, qq81, Sz81, Nn81, Hs81, Gf81⟩ := id hq1_1
        have hin82 : ¬ ((3 : Int32) < 0 ∨ cl81.slots.size ≤ ((3 : Int32)).toNatClampNeg) := inb_of Sz81 ⟨by decide, by decide⟩
        have hat83 : cl81.slots[((3 : Int32)).toNatClampNeg]? = some (.ref s_LINKS) := Has.at Hs81 hin82 rfl
        have f84 := (pf_F_s_LINKS_name.keep K1q nin0)
        obtain ⟨T85, X85, e85, st85⟩ := getF X68 hx hZ hown (host := "") (Or.inl wo74) Via.refl K68q f84 (g := (mkF m 21 #[rv st_, rv r_1, iv (4 : Int32), iv (3 : Int32), rv s_LINKS] [(.ref s_LINKS)])) rfl rfl (hb hby d11_21)
        have f89 := (pf_A_s_LINKS_name_value.keep K1q nin0)
        obtain ⟨kv87, hv88⟩ := id f89
        have f90 := (pf_E_s_LINKS_name.keep K1q)
        have f91 := (pf_F_s_LINKS_name_value.keep K1q nin0)
        have f92 := (pf_F_s_LINKS_name_coder.keep K1q nin0)
        obtain ⟨kv93, hv94⟩ := id f36
        have hws86 : ∀ d ∈ StrChars.Road.wordsEq, d.before a0 Z = true := fun d hd => hw d ((by decide +kernel : ∀ d ∈ StrChars.Road.wordsEq, d ∈ tables_1) d hd)
        obtain ⟨cq86, kq86, q86a, q86b, q86c⟩ := isOf hZ e85 f90
        obtain ⟨_, _, ⟨T86, L86, k86, n86⟩, -, X86, ⟨Lc86, hQ86, l86, y86, z86⟩, st86⟩ := X85.virtualBack hx (y := MN9) (z := MN9) hown (mvT hZ wo76) (mvT hZ wo41) (notFace_of_selects (args := #[]) (mvT hZ wo43)) (mvT hZ wo43) (mvT hZ wo42) (by decide) (StrChars.Road.eqW (W := 0) hZ hws86 (kI := 4) wo1 f90 f91 f92 hv88 (own_cod (by rfl) own_Lr4) (own_wid own_Lr4) (by decide) f37 f38 f39 hv94 (own_cod hns hrs) (own_wid hrs) hks (pf_S_java_lang_String_COMPACT_STRINGS.ext f40.2) hcs (by decide) (by decide)) q86a q86c (g := (mkF m 25 #[rv st_, rv r_1, iv (4 : Int32), iv (3 : Int32), rv s_LINKS] [(.ref st_), (.ref s_LINKS_name)])) rfl (by rw [hml]; rfl) (Steps.refl _) (argsL := [(.ref st_)]) (rest := []) (lenOf pd_8 rfl) rfl (by show 2 * 0 + _ ≤ _; exact Nat.le_of_eq rfl) (hb hby d11_25) (fun _ _ => ⟨rfl, e85, (by decide : 1 + 0 ≤ _), (by decide : 4 + 0 ≤ _)⟩)
        dsimp only [Pt.U, Pt.locs, Pt.cells, Pt.slots] at X86 l86 y86 z86 st86 hQ86
        rw [l86, y86, z86] at X86
        obtain ⟨hv86, hl86, K86q⟩ := hQ86
        rw [hl86, List.append_nil] at X86
        obtain rfl := own_pick hv86
        have pre95 : ∀ t, Steps p.tables e below (T86.setTop (mkF m 28 #[rv st_, rv r_1, iv (4 : Int32), iv (3 : Int32), rv s_LINKS] [(.int (if own_L4 = cs_ then (1 : Int32) else (0 : Int32)))])) t → Steps p.tables e below (s₁.setTop (entryFrame m #[(.ref st_)] 5)) t := by
          intro t_ k_
          refine pre77 _ ?_
          show Steps p.tables e below (T68.setTop (mkF m 28 #[rv st_, rv r_1, iv (4 : Int32), iv (2 : Int32), rv s_TYPES] [(.int (if own_L3 = cs_ then (1 : Int32) else (0 : Int32)))])) _
          rw [q80]
          show Steps p.tables e below (T68.setTop (mkF m 28 #[rv st_, rv r_1, iv (4 : Int32), iv (2 : Int32), rv s_TYPES] [(.int (0 : Int32))])) _
          show Steps p.tables e below (T68.setTop (mkF m 28 #[rv st_, rv r_1, iv (4 : Int32), iv (2 : Int32), rv s_TYPES] [(.int (0 : Int32))])) _
          refine XS.ifYes X68.here hx rfl (pc0 := 28) (pc' := 34) rfl (hb hby d11_28) rfl ((if0 _ _).trans (teq (by decide : (0 : Int32) = (0 : Int32))).1) (by decide) (by decide) ?_
          show Steps p.tables e below (T68.setTop (mkF m 34 #[rv st_, rv r_1, iv (4 : Int32), iv (2 : Int32), rv s_TYPES] [])) _
          refine XS.iinc X68.here hx rfl (hb hby d11_34) rfl (l' := #[rv st_, rv r_1, iv (4 : Int32), iv (3 : Int32), rv s_TYPES]) rfl ?_
          show Steps p.tables e below (T68.setTop (mkF m 37 #[rv st_, rv r_1, iv (4 : Int32), iv (3 : Int32), rv s_TYPES] [])) _
          refine XS.goto X68.here hx rfl (pc0 := 37) (pc' := 9) rfl (hb hby d11_37) (by decide) (by decide) ?_
          show Steps p.tables e below (T68.setTop (mkF m 9 #[rv st_, rv r_1, iv (4 : Int32), iv (3 : Int32), rv s_TYPES] [])) _
          refine XS.iloadN X68.here hx rfl (hb hby d11_9) rfl ?_
          show Steps p.tables e below (T68.setTop (mkF m 10 #[rv st_, rv r_1, iv (4 : Int32), iv (3 : Int32), rv s_TYPES] [(.int (3 : Int32))])) _
          refine XS.iloadN X68.here hx rfl (hb hby d11_10) rfl ?_
          show Steps p.tables e below (T68.setTop (mkF m 11 #[rv st_, rv r_1, iv (4 : Int32), iv (3 : Int32), rv s_TYPES] [(.int (4 : Int32)), (.int (3 : Int32))])) _
          refine XS.icmpNo X68.here hx rfl (hb hby d11_11) rfl (tlt (by decide : (3 : Int32) < (4 : Int32))).2.1 ?_
          show Steps p.tables e below (T68.setTop (mkF m 14 #[rv st_, rv r_1, iv (4 : Int32), iv (3 : Int32), rv s_TYPES] [])) _
          refine XS.aloadN X68.here hx rfl (hb hby d11_14) rfl rfl ?_
          show Steps p.tables e below (T68.setTop (mkF m 15 #[rv st_, rv r_1, iv (4 : Int32), iv (3 : Int32), rv s_TYPES] [(.ref r_1)])) _
          refine XS.iloadN X68.here hx rfl (hb hby d11_15) rfl ?_
          show Steps p.tables e below (T68.setTop (mkF m 16 #[rv st_, rv r_1, iv (4 : Int32), iv (3 : Int32), rv s_TYPES] [(.int (3 : Int32)), (.ref r_1)])) _
          refine X68.aaload hx (j := (3 : Int32)) (v := (.ref s_LINKS)) (by rw [K68q]; exact Ar81.1) (State.isArrayOf_alike hZ.alike Ar81.2.1) rfl Ar81.2.2 hin82 hat83 (g := (mkF m 16 #[rv st_, rv r_1, iv (4 : Int32), iv (3 : Int32), rv s_TYPES] [(.int (3 : Int32)), (.ref r_1)])) rfl rfl (hb hby d11_16) _ ?_
          show Steps p.tables e below (T68.setTop (mkF m 17 #[rv st_, rv r_1, iv (4 : Int32), iv (3 : Int32), rv s_TYPES] [(.ref s_LINKS)])) _
          refine XS.astore X68.here hx rfl (hb hby d11_17) rfl rfl (l' := #[rv st_, rv r_1, iv (4 : Int32), iv (3 : Int32), rv s_LINKS]) rfl ?_
          show Steps p.tables e below (T68.setTop (mkF m 19 #[rv st_, rv r_1, iv (4 : Int32), iv (3 : Int32), rv s_LINKS] [])) _
          refine XS.aload X68.here hx rfl (hb hby d11_19) rfl rfl ?_
          show Steps p.tables e below (T68.setTop (mkF m 21 #[rv st_, rv r_1, iv (4 : Int32), iv (3 : Int32), rv s_LINKS] [(.ref s_LINKS)])) _
          refine st85 _ ?_
          show Steps p.tables e below (T85.setTop (mkF m 24 #[rv st_, rv r_1, iv (4 : Int32), iv (3 : Int32), rv s_LINKS] [(.ref s_LINKS_name)])) _
          refine XS.aloadN X85.here hx rfl (hb hby d11_24) rfl rfl ?_
          show Steps p.tables e below (T85.setTop (mkF m 25 #[rv st_, rv r_1, iv (4 : Int32), iv (3 : Int32), rv s_LINKS] [(.ref st_), (.ref s_LINKS_name)])) _
          refine st86.trans ?_
          exact k_
        by_cases hb96 : cs_ = own_L4
        · skip
          have q97 : (if own_L4 = cs_ then (1 : Int32) else (0 : Int32)) = (1 : Int32) := if_pos hb96.symm
          obtain ⟨fs, hr, hrun, hended, hW, hsame⟩ := X86.leave (v := some (.ref s_LINKS)) (fun h => by rw [Bd.returns] at h; cases h)
          refine ⟨_, _, pre95 _ ?_, hrun, hended, _, _, rfl, ?_, ⟨_, rfl⟩, hW, hsame.mono (by decide) (by decide)⟩
          · show Steps p.tables e below (T86.setTop (mkF m 28 #[rv st_, rv r_1, iv (4 : Int32), iv (3 : Int32), rv s_LINKS] [(.int (if own_L4 = cs_ then (1 : Int32) else (0 : Int32)))])) _
            rw [q97]
            show Steps p.tables e below (T86.setTop (mkF m 28 #[rv st_, rv r_1, iv (4 : Int32), iv (3 : Int32), rv s_LINKS] [(.int (1 : Int32))])) _
            show Steps p.tables e below (T86.setTop (mkF m 28 #[rv st_, rv r_1, iv (4 : Int32), iv (3 : Int32), rv s_LINKS] [(.int (1 : Int32))])) _
            refine XS.ifNo X86.here hx rfl (hb hby d11_28) rfl ((if0 _ _).trans (feq (by decide : ¬ ((1 : Int32) = (0 : Int32)))).1) ?_
            show Steps p.tables e below (T86.setTop (mkF m 31 #[rv st_, rv r_1, iv (4 : Int32), iv (3 : Int32), rv s_LINKS] [])) _
            refine XS.aload X86.here hx rfl (hb hby d11_31) rfl rfl ?_
            show Steps p.tables e below (T86.setTop (mkF m 33 #[rv st_, rv r_1, iv (4 : Int32), iv (3 : Int32), rv s_LINKS] [(.ref s_LINKS)])) _
            exact retOut X86 hx Bd.returns rfl (Or.inr (Or.inr (Or.inr (Or.inr ⟨rfl, rfl, rfl⟩)))) (hb hby d11_33) hr
          · show Q_rmNam Z _ _ _ _ _ _ _ _ _ _ _ _ _ _ _ _ _ _ h0 n0 _ T86.heap _
            rw [K86q]
            exact ⟨(by unfold own_pk; rw [if_neg hb42, if_neg hb60, if_neg hb78, if_pos hb96]), N2, (K20)⟩
        · skip
          have q98 : (if own_L4 = cs_ then (1 : Int32) else (0 : Int32)) = (0 : Int32) := if_neg (fun q => hb96 q.symm)
          obtain ⟨fs, hr, hrun, hended, hW, hsame⟩ := X86.leave (v := some .null) (fun h => by rw [Bd.returns] at h; cases h)
          refine ⟨_, _, pre95 _ ?_, hrun, hended, _, _, rfl, ?_, ⟨_, rfl⟩, hW, hsame.mono (by decide) (by decide)⟩
          · show Steps p.tables e below (T86.setTop (mkF m 28 #[rv st_, rv r_1, iv (4 : Int32), iv (3 : Int32), rv s_LINKS] [(.int (if own_L4 = cs_ then (1 : Int32) else (0 : Int32)))])) _
            rw [q98]
            show Steps p.tables e below (T86.setTop (mkF m 28 #[rv st_, rv r_1, iv (4 : Int32), iv (3 : Int32), rv s_LINKS] [(.int (0 : Int32))])) _
            show Steps p.tables e below (T86.setTop (mkF m 28 #[rv st_, rv r_1, iv (4 : Int32), iv (3 : Int32), rv s_LINKS] [(.int (0 : Int32))])) _
            refine XS.ifYes X86.here hx rfl (pc0 := 28) (pc' := 34) rfl (hb hby d11_28) rfl ((if0 _ _).trans (teq (by decide : (0 : Int32) = (0 : Int32))).1) (by decide) (by decide) ?_
            show Steps p.tables e below (T86.setTop (mkF m 34 #[rv st_, rv r_1, iv (4 : Int32), iv (3 : Int32), rv s_LINKS] [])) _
            refine XS.iinc X86.here hx rfl (hb hby d11_34) rfl (l' := #[rv st_, rv r_1, iv (4 : Int32), iv (4 : Int32), rv s_LINKS]) rfl ?_
            show Steps p.tables e below (T86.setTop (mkF m 37 #[rv st_, rv r_1, iv (4 : Int32), iv (4 : Int32), rv s_LINKS] [])) _
            refine XS.goto X86.here hx rfl (pc0 := 37) (pc' := 9) rfl (hb hby d11_37) (by decide) (by decide) ?_
            show Steps p.tables e below (T86.setTop (mkF m 9 #[rv st_, rv r_1, iv (4 : Int32), iv (4 : Int32), rv s_LINKS] [])) _
            refine XS.iloadN X86.here hx rfl (hb hby d11_9) rfl ?_
            show Steps p.tables e below (T86.setTop (mkF m 10 #[rv st_, rv r_1, iv (4 : Int32), iv (4 : Int32), rv s_LINKS] [(.int (4 : Int32))])) _
            refine XS.iloadN X86.here hx rfl (hb hby d11_10) rfl ?_
            show Steps p.tables e below (T86.setTop (mkF m 11 #[rv st_, rv r_1, iv (4 : Int32), iv (4 : Int32), rv s_LINKS] [(.int (4 : Int32)), (.int (4 : Int32))])) _
            refine XS.icmpYes X86.here hx rfl (pc0 := 11) (pc' := 40) rfl (hb hby d11_11) rfl (flt (by decide : ¬ ((4 : Int32) < (4 : Int32)))).2.1 (by decide) (by decide) ?_
            show Steps p.tables e below (T86.setTop (mkF m 40 #[rv st_, rv r_1, iv (4 : Int32), iv (4 : Int32), rv s_LINKS] [])) _
            refine XS.aconstNull X86.here hx rfl (hb hby d11_40) ?_
            show Steps p.tables e below (T86.setTop (mkF m 41 #[rv st_, rv r_1, iv (4 : Int32), iv (4 : Int32), rv s_LINKS] [.null])) _
            exact retOut X86 hx Bd.returns rfl (Or.inr (Or.inr (Or.inr (Or.inr ⟨rfl, rfl, rfl⟩)))) (hb hby d11_41) hr
          · show Q_rmNam Z _ _ _ _ _ _ _ _ _ _ _ _ _ _ _ _ _ _ h0 n0 _ T86.heap _
            rw [K86q]
            exact ⟨(by unfold own_pk; rw [if_neg hb42, if_neg hb60, if_neg hb78, if_neg hb96]), N2, (K20)⟩
theorem d9_0 : decode jdk_42_method_66_code 0 = .ok (.aload_n 0, 1) := by decide +kernel
theorem d9_1 : decode jdk_42_method_66_code 1 = .ok (.aload_n 1, 1) := by decide +kernel
theorem d9_2 : decode jdk_42_method_66_code 2 = .ok (.if_acmp .ne 5, 3) := by decide +kernel
theorem d9_7 : decode jdk_42_method_66_code 7 = .ok (.aload_n 1, 1) := by decide +kernel
theorem d9_8 : decode jdk_42_method_66_code 8 = .ok (.instanceof 10, 3) := by decide +kernel
theorem d9_11 : decode jdk_42_method_66_code 11 = .ok (.ifCond .eq 43, 3) := by decide +kernel
theorem d9_54 : decode jdk_42_method_66_code 54 = .ok (.iconst 0, 1) := by decide +kernel
theorem d9_55 : decode jdk_42_method_66_code 55 = .ok (.ireturn, 1) := by decide +kernel
theorem ef_rmEqN (m : MethodId) (x0 : Addr) : entryFrame m #[(.ref x0), .null] 3 = mkF m 0 #[rv x0, .val .null, .unset] [] := by first | (simp [entryFrame, mkF, argsToLocals, Value.category]; done) | rfl
def Q_rmEqN (Z : State) (a9_0 : Addr) (h0 : Heap) (n0 : Nat) (v : Option Value) (h : Heap) (L : List Loc) : Prop := v = some (.int (0 : Int32)) ∧ Fr n0 L ∧ h = h0
set_option maxRecDepth 65536 in
set_option maxHeartbeats 40000000 in
theorem rmEqN (l : Launch) (Z : State) (a0 : Array Value) (hw : ∀ d ∈ tables_1, d.before a0 Z = true) (ws : List Jvm.Cond) (a9_0 : Addr) (h0 : Heap) (n0 : Nat) (Z0 : n0 ≤ h0.size) (pf_E_a9_0 : Exa Z h0 a9_0 "java/lang/String") :
    MetFree l (⟨"java/lang/String", "equals", "(Ljava/lang/Object;)Z"⟩ : MethodName) (head1 (Jvm.Cond.code (⟨"java/lang/String", "equals", "(Ljava/lang/Object;)Z"⟩ : MethodName) jdk_42_method_66_code 3 (some .boolean) :: ws) ({ frames := 0, cells := 0, slots := 0, locals := 0 } : Room)) (fun a U => a = #[(.ref a9_0), .null] ∧ Z.Warmed39 U.vm ∧ U.heap = h0) (fun _ _ _ _ _ => True) (fun _ U o U' => ∃ v L, o = .returned v ∧ Q_rmEqN Z a9_0 h0 n0 v U'.heap L ∧ FrameEnd U o U' L ({ frames := 0, cells := 0, slots := 0, locals := 0 } : Room).cells ({ frames := 0, cells := 0, slots := 0, locals := 0 } : Room).slots) := by
  refine MetFree.of_bodySF (plainFor_of_name pn_java_lang_String) hisR ?_
  intro p e s m args below meth c s₁ Bd hml0 hP hK
  obtain ⟨rfl, hZ, hh⟩ := hP
  have hx := Bd.exec
  have hby := Bd.bytes
  have hml : c.maxLocals = 3 := hml0
  have hown : s.vm.findClass "java/lang/String" = some m.cls := findClass_of_methodNamed Bd.named
  have hnm := (name_of_methodNamed Bd.named Bd.method).1
  have X0 : Stand p l e ({ frames := 0, cells := 0, slots := 0, locals := 0 } : Room) s m #[(.ref a9_0), .null] below meth c s₁ [] 0 0 := Stand.of_body Bd
  have e0 : s₁.heap = h0 := by rw [← hh, Bd.state]; rfl
  have N0 := Fr.nil n0
  have pre0 : ∀ t, Steps p.tables e below (s₁.setTop (mkF m 0 #[rv a9_0, .val .null, .unset] [])) t → Steps p.tables e below (s₁.setTop (entryFrame m #[(.ref a9_0), .null] 3)) t := fun t k => castTop (ef_rmEqN m a9_0) k
  obtain ⟨fs, hr, hrun, hended, hW, hsame⟩ := X0.leave (v := some (.int (0 : Int32))) (fun h => by rw [Bd.returns] at h; cases h)
  refine ⟨_, _, pre0 _ ?_, hrun, hended, _, _, rfl, ?_, ⟨_, rfl⟩, hW, hsame.mono (by decide) (by decide)⟩
  · show Steps p.tables e below (s₁.setTop (mkF m 0 #[rv a9_0, .val .null, .unset] [])) _
    refine XS.aloadN X0.here hx rfl (hb hby d9_0) rfl rfl ?_
    show Steps p.tables e below (s₁.setTop (mkF m 1 #[rv a9_0, .val .null, .unset] [(.ref a9_0)])) _
    refine XS.aloadN X0.here hx rfl (hb hby d9_1) rfl rfl ?_
    show Steps p.tables e below (s₁.setTop (mkF m 2 #[rv a9_0, .val .null, .unset] [.null, (.ref a9_0)])) _
    refine Jvm.RoadKit.acmp (g := (mkF m 2 #[rv a9_0, .val .null, .unset] [.null, (.ref a9_0)])) X0 hx rfl rfl rfl (pc0 := 2) (pc' := 7) (same := false) rfl (hb hby d9_2) rfl (decide_eq_false nofun) (by decide) (by decide) ?_
    show Steps p.tables e below (s₁.setTop (mkF m 7 #[rv a9_0, .val .null, .unset] [])) _
    refine XS.aloadN X0.here hx rfl (hb hby d9_7) rfl rfl ?_
    show Steps p.tables e below (s₁.setTop (mkF m 8 #[rv a9_0, .val .null, .unset] [.null])) _
    refine X0.instanceofNull hx (g := (mkF m 8 #[rv a9_0, .val .null, .unset] [.null])) rfl rfl (hb hby d9_8) _ ?_
    show Steps p.tables e below (s₁.setTop (mkF m 11 #[rv a9_0, .val .null, .unset] [(.int (0 : Int32))])) _
    refine XS.ifYes X0.here hx rfl (pc0 := 11) (pc' := 54) rfl (hb hby d9_11) rfl ((if0 _ _).trans (teq (by decide : (0 : Int32) = (0 : Int32))).1) (by decide) (by decide) ?_
    show Steps p.tables e below (s₁.setTop (mkF m 54 #[rv a9_0, .val .null, .unset] [])) _
    refine XS.iconst X0.here hx rfl (hb hby d9_54) ?_
    show Steps p.tables e below (s₁.setTop (mkF m 55 #[rv a9_0, .val .null, .unset] [(.int (0 : Int32))])) _
    exact retN X0 hx (t := .boolean) Bd.returns (by simp) (hb hby d9_55) hr
  · show Q_rmEqN Z _ h0 n0 _ s₁.heap _
    rw [e0]
    exact ⟨rfl, N0, rfl⟩
theorem ef_rmNamN (m : MethodId)  : entryFrame m #[.null] 5 = mkF m 0 #[.val .null, .unset, .unset, .unset, .unset] [] := by first | (simp [entryFrame, mkF, argsToLocals, Value.category]; done) | rfl
def Q_rmNamN (Z : State) (s_NAMES : Addr) (s_VALUES : Addr) (s_ATTRIBUTES : Addr) (s_TYPES : Addr) (s_LINKS : Addr) (s_NAMES_name : Addr) (s_NAMES_name_value : Addr) (s_ATTRIBUTES_name : Addr) (s_ATTRIBUTES_name_value : Addr) (s_TYPES_name : Addr) (s_TYPES_name_value : Addr) (s_LINKS_name : Addr) (s_LINKS_name_value : Addr) (cs : Int32) (h0 : Heap) (n0 : Nat) (v : Option Value) (h : Heap) (L : List Loc) : Prop := v = some .null ∧ Fr n0 L ∧ Keep h0 h []
set_option maxRecDepth 65536 in
set_option maxHeartbeats 40000000 in
theorem rmNamN (l : Launch) (Z : State) (a0 : Array Value) (hw : ∀ d ∈ tables_1, d.before a0 Z = true) (ws : List Jvm.Cond) (s_NAMES : Addr) (s_VALUES : Addr) (s_ATTRIBUTES : Addr) (s_TYPES : Addr) (s_LINKS : Addr) (s_NAMES_name : Addr) (s_NAMES_name_value : Addr) (s_ATTRIBUTES_name : Addr) (s_ATTRIBUTES_name_value : Addr) (s_TYPES_name : Addr) (s_TYPES_name_value : Addr) (s_LINKS_name : Addr) (s_LINKS_name_value : Addr) (cs : Int32) (h0 : Heap) (n0 : Nat) (Z0 : n0 ≤ h0.size) (pf_O : Old Z n0 h0) (pf_S_com_example_iskati_iskati_entity_EntityField_NAMES : Sta Z Z.heap "com/example/iskati/iskati/entity/EntityField" "NAMES" "Lcom/example/iskati/iskati/entity/EntityField;" (.ref s_NAMES)) (pf_E_s_NAMES : Exa Z h0 s_NAMES "com/example/iskati/iskati/entity/EntityField") (pf_S_com_example_iskati_iskati_entity_EntityField__VALUES : Sta Z Z.heap "com/example/iskati/iskati/entity/EntityField" "$VALUES" "[Lcom/example/iskati/iskati/entity/EntityField;" (.ref s_VALUES)) (pf_E_s_VALUES : Exa Z h0 s_VALUES "[Lcom/example/iskati/iskati/entity/EntityField;") (pf_S_com_example_iskati_iskati_entity_EntityField_ATTRIBUTES : Sta Z Z.heap "com/example/iskati/iskati/entity/EntityField" "ATTRIBUTES" "Lcom/example/iskati/iskati/entity/EntityField;" (.ref s_ATTRIBUTES)) (pf_E_s_ATTRIBUTES : Exa Z h0 s_ATTRIBUTES "com/example/iskati/iskati/entity/EntityField") (pf_S_com_example_iskati_iskati_entity_EntityField_TYPES : Sta Z Z.heap "com/example/iskati/iskati/entity/EntityField" "TYPES" "Lcom/example/iskati/iskati/entity/EntityField;" (.ref s_TYPES)) (pf_E_s_TYPES : Exa Z h0 s_TYPES "com/example/iskati/iskati/entity/EntityField") (pf_S_com_example_iskati_iskati_entity_EntityField_LINKS : Sta Z Z.heap "com/example/iskati/iskati/entity/EntityField" "LINKS" "Lcom/example/iskati/iskati/entity/EntityField;" (.ref s_LINKS)) (pf_E_s_LINKS : Exa Z h0 s_LINKS "com/example/iskati/iskati/entity/EntityField") (pf_F_s_NAMES_name : Fld Z h0 s_NAMES "com/example/iskati/iskati/entity/EntityField" "name" "Ljava/lang/String;" (.ref s_NAMES_name)) (pf_E_s_NAMES_name : Exa Z h0 s_NAMES_name "java/lang/String") (pf_F_s_NAMES_name_coder : Fld Z h0 s_NAMES_name "java/lang/String" "coder" "B" (.int (0 : Int32))) (pf_F_s_NAMES_name_value : Fld Z h0 s_NAMES_name "java/lang/String" "value" "[B" (.ref s_NAMES_name_value)) (pf_F_s_ATTRIBUTES_name : Fld Z h0 s_ATTRIBUTES "com/example/iskati/iskati/entity/EntityField" "name" "Ljava/lang/String;" (.ref s_ATTRIBUTES_name)) (pf_E_s_ATTRIBUTES_name : Exa Z h0 s_ATTRIBUTES_name "java/lang/String") (pf_F_s_ATTRIBUTES_name_coder : Fld Z h0 s_ATTRIBUTES_name "java/lang/String" "coder" "B" (.int (0 : Int32))) (pf_F_s_ATTRIBUTES_name_value : Fld Z h0 s_ATTRIBUTES_name "java/lang/String" "value" "[B" (.ref s_ATTRIBUTES_name_value)) (pf_F_s_TYPES_name : Fld Z h0 s_TYPES "com/example/iskati/iskati/entity/EntityField" "name" "Ljava/lang/String;" (.ref s_TYPES_name)) (pf_E_s_TYPES_name : Exa Z h0 s_TYPES_name "java/lang/String") (pf_F_s_TYPES_name_coder : Fld Z h0 s_TYPES_name "java/lang/String" "coder" "B" (.int (0 : Int32))) (pf_F_s_TYPES_name_value : Fld Z h0 s_TYPES_name "java/lang/String" "value" "[B" (.ref s_TYPES_name_value)) (pf_F_s_LINKS_name : Fld Z h0 s_LINKS "com/example/iskati/iskati/entity/EntityField" "name" "Ljava/lang/String;" (.ref s_LINKS_name)) (pf_E_s_LINKS_name : Exa Z h0 s_LINKS_name "java/lang/String") (pf_F_s_LINKS_name_coder : Fld Z h0 s_LINKS_name "java/lang/String" "coder" "B" (.int (0 : Int32))) (pf_F_s_LINKS_name_value : Fld Z h0 s_LINKS_name "java/lang/String" "value" "[B" (.ref s_LINKS_name_value)) (pf_A_s_VALUES : Av Z h0 s_VALUES (.object "com/example/iskati/iskati/entity/EntityField") (4 : Int32) [(.ref s_NAMES), (.ref s_ATTRIBUTES), (.ref s_TYPES), (.ref s_LINKS)] .null) (pf_A_s_NAMES_name_value : Av Z h0 s_NAMES_name_value .byte (5 : Int32) (own_vs own_L1) (.int (0 : Int32))) (pf_A_s_ATTRIBUTES_name_value : Av Z h0 s_ATTRIBUTES_name_value .byte (10 : Int32) (own_vs own_L2) (.int (0 : Int32))) (pf_A_s_TYPES_name_value : Av Z h0 s_TYPES_name_value .byte (5 : Int32) (own_vs own_L3) (.int (0 : Int32))) (pf_A_s_LINKS_name_value : Av Z h0 s_LINKS_name_value .byte (5 : Int32) (own_vs own_L4) (.int (0 : Int32))) (pf_S_java_lang_String_COMPACT_STRINGS : Sta Z Z.heap "java/lang/String" "COMPACT_STRINGS" "Z" (.int cs)) (hcs : ¬ (cs = (0 : Int32))) :
    MetFree l (⟨"com/example/iskati/iskati/entity/EntityField", "named", "(Ljava/lang/String;)Lcom/example/iskati/iskati/entity/EntityField;"⟩ : MethodName) (head1 (Jvm.Cond.code (⟨"com/example/iskati/iskati/entity/EntityField", "named", "(Ljava/lang/String;)Lcom/example/iskati/iskati/entity/EntityField;"⟩ : MethodName) prog_4_method_5_code 5 (some (.object "com/example/iskati/iskati/entity/EntityField")) :: ws) ({ frames := 2, cells := 1, slots := 4, locals := 25 } : Room)) (fun a U => a = #[.null] ∧ Z.Warmed39 U.vm ∧ U.heap = h0) (fun _ _ _ _ _ => True) (fun _ U o U' => ∃ v L, o = .returned v ∧ Q_rmNamN Z s_NAMES s_VALUES s_ATTRIBUTES s_TYPES s_LINKS s_NAMES_name s_NAMES_name_value s_ATTRIBUTES_name s_ATTRIBUTES_name_value s_TYPES_name s_TYPES_name_value s_LINKS_name s_LINKS_name_value cs h0 n0 v U'.heap L ∧ FrameEnd U o U' L ({ frames := 2, cells := 1, slots := 4, locals := 25 } : Room).cells ({ frames := 2, cells := 1, slots := 4, locals := 25 } : Room).slots) := by
  refine MetFree.of_bodySF (plainFor_of_name pn_com_example_iskati_iskati_entity_EntityField) hisR ?_
  intro p e s m args below meth c s₁ Bd hml0 hP hK
  obtain ⟨rfl, hZ, hh⟩ := hP
  have hx := Bd.exec
  have hby := Bd.bytes
  have hml : c.maxLocals = 5 := hml0
  have hown : s.vm.findClass "com/example/iskati/iskati/entity/EntityField" = some m.cls := findClass_of_methodNamed Bd.named
  have hnm := (name_of_methodNamed Bd.named Bd.method).1
  have X0 : Stand p l e ({ frames := 2, cells := 1, slots := 4, locals := 25 } : Room) s m #[.null] below meth c s₁ [] 0 0 := Stand.of_body Bd
  have e0 : s₁.heap = h0 := by rw [← hh, Bd.state]; rfl
  have N0 := Fr.nil n0
  have pre0 : ∀ t, Steps p.tables e below (s₁.setTop (mkF m 0 #[.val .null, .unset, .unset, .unset, .unset] [])) t → Steps p.tables e below (s₁.setTop (entryFrame m #[.null] 5)) t := fun t k => castTop (ef_rmNamN m ) k
  have wo2 := hw _ (List.mem_of_getElem? (i := 2) rfl)
  have wo41 := hw _ (List.mem_of_getElem? (i := 41) rfl)
  have wo42 := hw _ (List.mem_of_getElem? (i := 42) rfl)
  have wo43 := hw _ (List.mem_of_getElem? (i := 43) rfl)
  have wo44 := hw _ (List.mem_of_getElem? (i := 44) rfl)
  have wo51 := hw _ (List.mem_of_getElem? (i := 51) rfl)
  have wo56 := hw _ (List.mem_of_getElem? (i := 56) rfl)
  have wo57 := hw _ (List.mem_of_getElem? (i := 57) rfl)
  have wo58 := hw _ (List.mem_of_getElem? (i := 58) rfl)
  have wo74 := hw _ (List.mem_of_getElem? (i := 74) rfl)
  have wo76 := hw _ (List.mem_of_getElem? (i := 76) rfl)
  obtain ⟨_, _, ⟨T1, L1, k1, n1⟩, -, X1, ⟨Lc1, hQ1, l1, y1, z1⟩, st1⟩ := Jvm.LawKit.callS X0 hx (y := MN12) hown (mvT hZ wo56) (mvT hZ wo57) (mvT hZ wo51) (mvT hZ wo58) (by decide) (backOf (W := 0) (rm12 l Z a0 hw [] s_VALUES s_NAMES s_ATTRIBUTES s_TYPES s_LINKS h0 n0 Z0 pf_O pf_S_com_example_iskati_iskati_entity_EntityField__VALUES pf_E_s_VALUES pf_A_s_VALUES) hZ wo58 wo51 (by decide) (by decide)) (g := (mkF m 0 #[.val .null, .unset, .unset, .unset, .unset] [])) rfl (by rw [hml]; rfl) (argsL := []) (rest := []) (lenOf pd_2 rfl) rfl (by show 2 * 0 + _ ≤ _; exact Nat.le_of_eq rfl) (hb hby d11_0) (fun _ _ => ⟨rfl, e0, (by decide : 0 + 1 ≤ _), (by decide : 0 + 4 ≤ _)⟩)
  dsimp only [Pt.U, Pt.locs, Pt.cells, Pt.slots] at X1 l1 y1 z1 st1 hQ1
  rw [l1, y1, z1] at X1
  obtain ⟨r_1, rfl, N1q, K1q, hq1_0, hq1_1⟩ := hQ1
  have N2 := Fr.app N0 N1q
  have ne3 : s_NAMES ≠ r_1 := Nat.ne_of_lt (Nat.lt_of_lt_of_le pf_E_s_NAMES.lt hq1_0)
  have ne4 : s_VALUES ≠ r_1 := Nat.ne_of_lt (Nat.lt_of_lt_of_le pf_E_s_VALUES.lt hq1_0)
  have ne5 : s_ATTRIBUTES ≠ r_1 := Nat.ne_of_lt (Nat.lt_of_lt_of_le pf_E_s_ATTRIBUTES.lt hq1_0)
  have ne6 : s_TYPES ≠ r_1 := Nat.ne_of_lt (Nat.lt_of_lt_of_le pf_E_s_TYPES.lt hq1_0)
  have ne7 : s_LINKS ≠ r_1 := Nat.ne_of_lt (Nat.lt_of_lt_of_le pf_E_s_LINKS.lt hq1_0)
  have ne8 : s_NAMES_name ≠ r_1 := Nat.ne_of_lt (Nat.lt_of_lt_of_le pf_E_s_NAMES_name.lt hq1_0)
  have ne9 : s_ATTRIBUTES_name ≠ r_1 := Nat.ne_of_lt (Nat.lt_of_lt_of_le pf_E_s_ATTRIBUTES_name.lt hq1_0)
  have ne10 : s_TYPES_name ≠ r_1 := Nat.ne_of_lt (Nat.lt_of_lt_of_le pf_E_s_TYPES_name.lt hq1_0)
  have ne11 : s_LINKS_name ≠ r_1 := Nat.ne_of_lt (Nat.lt_of_lt_of_le pf_E_s_LINKS_name.lt hq1_0)
  have ne12 : s_NAMES_name_value ≠ r_1 := Nat.ne_of_lt (Nat.lt_of_lt_of_le pf_A_s_NAMES_name_value.lt hq1_0)
  have ne13 : s_ATTRIBUTES_name_value ≠ r_1 := Nat.ne_of_lt (Nat.lt_of_lt_of_le pf_A_s_ATTRIBUTES_name_value.lt hq1_0)
  have ne14 : s_TYPES_name_value ≠ r_1 := Nat.ne_of_lt (Nat.lt_of_lt_of_le pf_A_s_TYPES_name_value.lt hq1_0)
  have ne15 : s_LINKS_name_value ≠ r_1 := Nat.ne_of_lt (Nat.lt_of_lt_of_le pf_A_s_LINKS_name_value.lt hq1_0)
  have g16 : n0 ≤ r_1 := Nat.le_trans Z0 hq1_0
  have bz17 : h0.size ≤ r_1 := Nat.le_trans (Keep.refl h0 []).1 hq1_0
  have K18 : Keep h0 T1.heap [] := (Keep.refl h0 []).trans K1q all0
  obtain ⟨kk19, cl19, Ar19, qq19, Sz19, Nn19, Hs19, Gf19⟩ := id hq1_1
  obtain ⟨kk20, cl20, Ar20, qq20, Sz20, Nn20, Hs20, Gf20⟩ := id hq1_1
  have hin21 : ¬ ((0 : Int32) < 0 ∨ cl20.slots.size ≤ ((0 : Int32)).toNatClampNeg) := inb_of Sz20 ⟨by decide, by decide⟩
  have hat22 : cl20.slots[((0 : Int32)).toNatClampNeg]? = some (.ref s_NAMES) := Has.at Hs20 hin21 rfl
  have f23 := (pf_F_s_NAMES_name.keep K1q nin0)
  obtain ⟨T24, X24, e24, st24⟩ := getF X1 hx hZ hown (host := "") (Or.inl wo74) Via.refl rfl f23 (g := (mkF m 21 #[.val .null, rv r_1, iv (4 : Int32), iv (0 : Int32), rv s_NAMES] [(.ref s_NAMES)])) rfl rfl (hb hby d11_21)
  have f25 := (pf_E_s_NAMES_name.keep K1q)
  have f27 := (Nat.le_trans Z0 K1q.1)
  obtain ⟨cq26, kq26, q26a, q26b, q26c⟩ := isOf hZ e24 f25
  obtain ⟨_, _, ⟨T26, L26, k26, n26⟩, -, X26, ⟨Lc26, hQ26, l26, y26, z26⟩, st26⟩ := X24.virtualBack hx (y := MN9) (z := MN9) hown (mvT hZ wo76) (mvT hZ wo41) (notFace_of_selects (args := #[]) (mvT hZ wo43)) (mvT hZ wo43) (mvT hZ wo42) (by decide) (backOf (W := 0) (rmEqN l Z a0 hw [] s_NAMES_name (T1.heap) n0 f27 f25) hZ wo44 wo2 (by decide) (by decide)) q26a q26c (g := (mkF m 25 #[.val .null, rv r_1, iv (4 : Int32), iv (0 : Int32), rv s_NAMES] [.null, (.ref s_NAMES_name)])) rfl (by rw [hml]; rfl) (Steps.refl _) (argsL := [.null]) (rest := []) (lenOf pd_8 rfl) rfl (by show 2 * 0 + _ ≤ _; exact Nat.le_of_eq rfl) (hb hby d11_25) (fun _ _ => ⟨rfl, e24, (by decide : 1 + 0 ≤ _), (by decide : 4 + 0 ≤ _)⟩)
  dsimp only [Pt.U, Pt.locs, Pt.cells, Pt.slots] at X26 l26 y26 z26 st26 hQ26
  rw [l26, y26, z26] at X26
  obtain ⟨rfl, N26q, K26q⟩ := hQ26
  have N28 := Fr.app N2 N26q
  obtain ⟨kk29, cl29, Ar29, qq29, Sz29, Nn29, Hs29, Gf29⟩ := id hq1_1
  have hin30 : ¬ ((1 : Int32) < 0 ∨ cl29.slots.size ≤ ((1 : Int32)).toNatClampNeg) := inb_of Sz29 ⟨by decide, by decide⟩
  have hat31 : cl29.slots[((1 : Int32)).toNatClampNeg]? = some (.ref s_ATTRIBUTES) := Has.at Hs29 hin30 rfl
  have f32 := (pf_F_s_ATTRIBUTES_name.keep K1q nin0)
  obtain ⟨T33, X33, e33, st33⟩ := getF X26 hx hZ hown (host := "") (Or.inl wo74) Via.refl K26q f32 (g := (mkF m 21 #[.val .null, rv r_1, iv (4 : Int32), iv (1 : Int32), rv s_ATTRIBUTES] [(.ref s_ATTRIBUTES)])) rfl rfl (hb hby d11_21)
  have f34 := (pf_E_s_ATTRIBUTES_name.keep K1q)
  obtain ⟨cq35, kq35, q35a, q35b, q35c⟩ := isOf hZ e33 f34
  obtain ⟨_, _, ⟨T35, L35, k35, n35⟩, -, X35, ⟨Lc35, hQ35, l35, y35, z35⟩, st35⟩ := X33.virtualBack hx (y := MN9) (z := MN9) hown (mvT hZ wo76) (mvT hZ wo41) (notFace_of_selects (args := #[]) (mvT hZ wo43)) (mvT hZ wo43) (mvT hZ wo42) (by decide) (backOf (W := 0) (rmEqN l Z a0 hw [] s_ATTRIBUTES_name (T1.heap) n0 f27 f34) hZ wo44 wo2 (by decide) (by decide)) q35a q35c (g := (mkF m 25 #[.val .null, rv r_1, iv (4 : Int32), iv (1 : Int32), rv s_ATTRIBUTES] [.null, (.ref s_ATTRIBUTES_name)])) rfl (by rw [hml]; rfl) (Steps.refl _) (argsL := [.null]) (rest := []) (lenOf pd_8 rfl) rfl (by show 2 * 0 + _ ≤ _; exact Nat.le_of_eq rfl) (hb hby d11_25) (fun _ _ => ⟨rfl, e33, (by decide : 1 + 0 ≤ _), (by decide : 4 + 0 ≤ _)⟩)
  dsimp only [Pt.U, Pt.locs, Pt.cells, Pt.slots] at X35 l35 y35 z35 st35 hQ35
  rw [l35, y35, z35] at X35
  obtain ⟨rfl, N35q, K35q⟩ := hQ35
  have N36 := Fr.app N28 N35q
  obtain ⟨kk37, cl37, Ar37, qq37, Sz37, Nn37, Hs37, Gf37⟩ := id hq1_1
  have hin38 : ¬ ((2 : Int32) < 0 ∨ cl37.slots.size ≤ ((2 : Int32)).toNatClampNeg) := inb_of Sz37 ⟨by decide, by decide⟩
  have hat39 : cl37.slots[((2 : Int32)).toNatClampNeg]? = some (.ref s_TYPES) := Has.at Hs37 hin38 rfl
  have f40 := (pf_F_s_TYPES_name.keep K1q nin0)
  obtain ⟨T41, X41, e41, st41⟩ := getF X35 hx hZ hown (host := "") (Or.inl wo74) Via.refl K35q f40 (g := (mkF m 21 #[.val .null, rv r_1, iv (4 : Int32), iv (2 : Int32), rv s_TYPES] [(.ref s_TYPES)])) rfl rfl (hb hby d11_21)
  have f42 := (pf_E_s_TYPES_name.keep K1q)
  obtain ⟨cq43, kq43, q43a, q43b, q43c⟩ := isOf hZ e41 f42
  obtain ⟨_, _, ⟨T43, L43, k43, n43⟩, -, X43, ⟨Lc43, hQ43, l43, y43, z43⟩, st43⟩ := X41.virtualBack hx (y := MN9) (z := MN9) hown (mvT hZ wo76) (mvT hZ wo41) (notFace_of_selects (args := #[]) (mvT hZ wo43)) (mvT hZ wo43) (mvT hZ wo42) (by decide) (backOf (W := 0) (rmEqN l Z a0 hw [] s_TYPES_name (T1.heap) n0 f27 f42) hZ wo44 wo2 (by decide) (by decide)) q43a q43c (g := (mkF m 25 #[.val .null, rv r_1, iv (4 : Int32), iv (2 : Int32), rv s_TYPES] [.null, (.ref s_TYPES_name)])) rfl (by rw [hml]; rfl) (Steps.refl _) (argsL := [.null]) (rest := []) (lenOf pd_8 rfl) rfl (by show 2 * 0 + _ ≤ _; exact Nat.le_of_eq rfl) (hb hby d11_25) (fun _ _ => ⟨rfl, e41, (by decide : 1 + 0 ≤ _), (by decide : 4 + 0 ≤ _)⟩)
  dsimp only [Pt.U, Pt.locs, Pt.cells, Pt.slots] at X43 l43 y43 z43 st43 hQ43
  rw [l43, y43, z43] at X43
  obtain ⟨rfl, N43q, K43q⟩ := hQ43
  have N44 := Fr.app N36 N43q
  obtain ⟨kk45, cl45, Ar45, qq45, Sz45, Nn45, Hs45, Gf45⟩ := id hq1_1
  have hin46 : ¬ ((3 : Int32) < 0 ∨ cl45.slots.size ≤ ((3 : Int32)).toNatClampNeg) := inb_of Sz45 ⟨by decide, by decide⟩
  have hat47 : cl45.slots[((3 : Int32)).toNatClampNeg]? = some (.ref s_LINKS) := Has.at Hs45 hin46 rfl
  have f48 := (pf_F_s_LINKS_name.keep K1q nin0)
  obtain ⟨T49, X49, e49, st49⟩ := getF X43 hx hZ hown (host := "") (Or.inl wo74) Via.refl K43q f48 (g := (mkF m 21 #[.val .null, rv r_1, iv (4 : Int32), iv (3 : Int32), rv s_LINKS] [(.ref s_LINKS)])) rfl rfl (hb hby d11_21)
  have f50 := (pf_E_s_LINKS_name.keep K1q)
  obtain ⟨cq51, kq51, q51a, q51b, q51c⟩ := isOf hZ e49 f50
  obtain ⟨_, _, ⟨T51, L51, k51, n51⟩, -, X51, ⟨Lc51, hQ51, l51, y51, z51⟩, st51⟩ := X49.virtualBack hx (y := MN9) (z := MN9) hown (mvT hZ wo76) (mvT hZ wo41) (notFace_of_selects (args := #[]) (mvT hZ wo43)) (mvT hZ wo43) (mvT hZ wo42) (by decide) (backOf (W := 0) (rmEqN l Z a0 hw [] s_LINKS_name (T1.heap) n0 f27 f50) hZ wo44 wo2 (by decide) (by decide)) q51a q51c (g := (mkF m 25 #[.val .null, rv r_1, iv (4 : Int32), iv (3 : Int32), rv s_LINKS] [.null, (.ref s_LINKS_name)])) rfl (by rw [hml]; rfl) (Steps.refl _) (argsL := [.null]) (rest := []) (lenOf pd_8 rfl) rfl (by show 2 * 0 + _ ≤ _; exact Nat.le_of_eq rfl) (hb hby d11_25) (fun _ _ => ⟨rfl, e49, (by decide : 1 + 0 ≤ _), (by decide : 4 + 0 ≤ _)⟩)
  dsimp only [Pt.U, Pt.locs, Pt.cells, Pt.slots] at X51 l51 y51 z51 st51 hQ51
  rw [l51, y51, z51] at X51
  obtain ⟨rfl, N51q, K51q⟩ := hQ51
  have N52 := Fr.app N44 N51q
  obtain ⟨fs, hr, hrun, hended, hW, hsame⟩ := X51.leave (v := some .null) (fun h => by rw [Bd.returns] at h; cases h)
  refine ⟨_, _, pre0 _ ?_, hrun, hended, _, _, rfl, ?_, ⟨_, rfl⟩, hW, hsame.mono (by decide) (by decide)⟩
  · show Steps p.tables e below (s₁.setTop (mkF m 0 #[.val .null, .unset, .unset, .unset, .unset] [])) _
    refine st1 _ ?_
    show Steps p.tables e below (T1.setTop (mkF m 3 #[.val .null, .unset, .unset, .unset, .unset] [(.ref r_1)])) _
    refine XS.astoreN X1.here hx rfl (hb hby d11_3) rfl rfl (l' := #[.val .null, rv r_1, .unset, .unset, .unset]) rfl ?_
    show Steps p.tables e below (T1.setTop (mkF m 4 #[.val .null, rv r_1, .unset, .unset, .unset] [])) _
    refine XS.aloadN X1.here hx rfl (hb hby d11_4) rfl rfl ?_
    show Steps p.tables e below (T1.setTop (mkF m 5 #[.val .null, rv r_1, .unset, .unset, .unset] [(.ref r_1)])) _
    refine X1.arraylength hx (Ar19.1) (State.isArrayOf_alike hZ.alike Ar19.2.1) (g := (mkF m 5 #[.val .null, rv r_1, .unset, .unset, .unset] [(.ref r_1)])) rfl rfl (hb hby d11_5) _ ?_
    rw [len_of Sz19 Nn19]
    show Steps p.tables e below (T1.setTop (mkF m 6 #[.val .null, rv r_1, .unset, .unset, .unset] [(.int (4 : Int32))])) _
    refine XS.istoreN X1.here hx rfl (hb hby d11_6) rfl (l' := #[.val .null, rv r_1, iv (4 : Int32), .unset, .unset]) rfl ?_
    show Steps p.tables e below (T1.setTop (mkF m 7 #[.val .null, rv r_1, iv (4 : Int32), .unset, .unset] [])) _
    refine XS.iconst X1.here hx rfl (hb hby d11_7) ?_
    show Steps p.tables e below (T1.setTop (mkF m 8 #[.val .null, rv r_1, iv (4 : Int32), .unset, .unset] [(.int (0 : Int32))])) _
    refine XS.istoreN X1.here hx rfl (hb hby d11_8) rfl (l' := #[.val .null, rv r_1, iv (4 : Int32), iv (0 : Int32), .unset]) rfl ?_
    show Steps p.tables e below (T1.setTop (mkF m 9 #[.val .null, rv r_1, iv (4 : Int32), iv (0 : Int32), .unset] [])) _
    refine XS.iloadN X1.here hx rfl (hb hby d11_9) rfl ?_
    show Steps p.tables e below (T1.setTop (mkF m 10 #[.val .null, rv r_1, iv (4 : Int32), iv (0 : Int32), .unset] [(.int (0 : Int32))])) _
    refine XS.iloadN X1.here hx rfl (hb hby d11_10) rfl ?_
    show Steps p.tables e below (T1.setTop (mkF m 11 #[.val .null, rv r_1, iv (4 : Int32), iv (0 : Int32), .unset] [(.int (4 : Int32)), (.int (0 : Int32))])) _
    refine XS.icmpNo X1.here hx rfl (hb hby d11_11) rfl (tlt (by decide : (0 : Int32) < (4 : Int32))).2.1 ?_
    show Steps p.tables e below (T1.setTop (mkF m 14 #[.val .null, rv r_1, iv (4 : Int32), iv (0 : Int32), .unset] [])) _
    refine XS.aloadN X1.here hx rfl (hb hby d11_14) rfl rfl ?_
    show Steps p.tables e below (T1.setTop (mkF m 15 #[.val .null, rv r_1, iv (4 : Int32), iv (0 : Int32), .unset] [(.ref r_1)])) _
    refine XS.iloadN X1.here hx rfl (hb hby d11_15) rfl ?_
    show Steps p.tables e below (T1.setTop (mkF m 16 #[.val .null, rv r_1, iv (4 : Int32), iv (0 : Int32), .unset] [(.int (0 : Int32)), (.ref r_1)])) _
    refine X1.aaload hx (j := (0 : Int32)) (v := (.ref s_NAMES)) (Ar20.1) (State.isArrayOf_alike hZ.alike Ar20.2.1) rfl Ar20.2.2 hin21 hat22 (g := (mkF m 16 #[.val .null, rv r_1, iv (4 : Int32), iv (0 : Int32), .unset] [(.int (0 : Int32)), (.ref r_1)])) rfl rfl (hb hby d11_16) _ ?_
    show Steps p.tables e below (T1.setTop (mkF m 17 #[.val .null, rv r_1, iv (4 : Int32), iv (0 : Int32), .unset] [(.ref s_NAMES)])) _
    refine XS.astore X1.here hx rfl (hb hby d11_17) rfl rfl (l' := #[.val .null, rv r_1, iv (4 : Int32), iv (0 : Int32), rv s_NAMES]) rfl ?_
    show Steps p.tables e below (T1.setTop (mkF m 19 #[.val .null, rv r_1, iv (4 : Int32), iv (0 : Int32), rv s_NAMES] [])) _
    refine XS.aload X1.here hx rfl (hb hby d11_19) rfl rfl ?_
    show Steps p.tables e below (T1.setTop (mkF m 21 #[.val .null, rv r_1, iv (4 : Int32), iv (0 : Int32), rv s_NAMES] [(.ref s_NAMES)])) _
    refine st24 _ ?_
    show Steps p.tables e below (T24.setTop (mkF m 24 #[.val .null, rv r_1, iv (4 : Int32), iv (0 : Int32), rv s_NAMES] [(.ref s_NAMES_name)])) _
    refine XS.aloadN X24.here hx rfl (hb hby d11_24) rfl rfl ?_
    show Steps p.tables e below (T24.setTop (mkF m 25 #[.val .null, rv r_1, iv (4 : Int32), iv (0 : Int32), rv s_NAMES] [.null, (.ref s_NAMES_name)])) _
    refine st26.trans ?_
    show Steps p.tables e below (T26.setTop (mkF m 28 #[.val .null, rv r_1, iv (4 : Int32), iv (0 : Int32), rv s_NAMES] [(.int (0 : Int32))])) _
    refine XS.ifYes X26.here hx rfl (pc0 := 28) (pc' := 34) rfl (hb hby d11_28) rfl ((if0 _ _).trans (teq (by decide : (0 : Int32) = (0 : Int32))).1) (by decide) (by decide) ?_
    show Steps p.tables e below (T26.setTop (mkF m 34 #[.val .null, rv r_1, iv (4 : Int32), iv (0 : Int32), rv s_NAMES] [])) _
    refine XS.iinc X26.here hx rfl (hb hby d11_34) rfl (l' := #[.val .null, rv r_1, iv (4 : Int32), iv (1 : Int32), rv s_NAMES]) rfl ?_
    show Steps p.tables e below (T26.setTop (mkF m 37 #[.val .null, rv r_1, iv (4 : Int32), iv (1 : Int32), rv s_NAMES] [])) _
    refine XS.goto X26.here hx rfl (pc0 := 37) (pc' := 9) rfl (hb hby d11_37) (by decide) (by decide) ?_
    show Steps p.tables e below (T26.setTop (mkF m 9 #[.val .null, rv r_1, iv (4 : Int32), iv (1 : Int32), rv s_NAMES] [])) _
    refine XS.iloadN X26.here hx rfl (hb hby d11_9) rfl ?_
    show Steps p.tables e below (T26.setTop (mkF m 10 #[.val .null, rv r_1, iv (4 : Int32), iv (1 : Int32), rv s_NAMES] [(.int (1 : Int32))])) _
    refine XS.iloadN X26.here hx rfl (hb hby d11_10) rfl ?_
    show Steps p.tables e below (T26.setTop (mkF m 11 #[.val .null, rv r_1, iv (4 : Int32), iv (1 : Int32), rv s_NAMES] [(.int (4 : Int32)), (.int (1 : Int32))])) _
    refine XS.icmpNo X26.here hx rfl (hb hby d11_11) rfl (tlt (by decide : (1 : Int32) < (4 : Int32))).2.1 ?_
    show Steps p.tables e below (T26.setTop (mkF m 14 #[.val .null, rv r_1, iv (4 : Int32), iv (1 : Int32), rv s_NAMES] [])) _
    refine XS.aloadN X26.here hx rfl (hb hby d11_14) rfl rfl ?_
    show Steps p.tables e below (T26.setTop (mkF m 15 #[.val .null, rv r_1, iv (4 : Int32), iv (1 : Int32), rv s_NAMES] [(.ref r_1)])) _
    refine XS.iloadN X26.here hx rfl (hb hby d11_15) rfl ?_
    show Steps p.tables e below (T26.setTop (mkF m 16 #[.val .null, rv r_1, iv (4 : Int32), iv (1 : Int32), rv s_NAMES] [(.int (1 : Int32)), (.ref r_1)])) _
    refine X26.aaload hx (j := (1 : Int32)) (v := (.ref s_ATTRIBUTES)) (by rw [K26q]; exact Ar29.1) (State.isArrayOf_alike hZ.alike Ar29.2.1) rfl Ar29.2.2 hin30 hat31 (g := (mkF m 16 #[.val .null, rv r_1, iv (4 : Int32), iv (1 : Int32), rv s_NAMES] [(.int (1 : Int32)), (.ref r_1)])) rfl rfl (hb hby d11_16) _ ?_
    show Steps p.tables e below (T26.setTop (mkF m 17 #[.val .null, rv r_1, iv (4 : Int32), iv (1 : Int32), rv s_NAMES] [(.ref s_ATTRIBUTES)])) _
    refine XS.astore X26.here hx rfl (hb hby d11_17) rfl rfl (l' := #[.val .null, rv r_1, iv (4 : Int32), iv (1 : Int32), rv s_ATTRIBUTES]) rfl ?_
    show Steps p.tables e below (T26.setTop (mkF m 19 #[.val .null, rv r_1, iv (4 : Int32), iv (1 : Int32), rv s_ATTRIBUTES] [])) _
    refine XS.aload X26.here hx rfl (hb hby d11_19) rfl rfl ?_
    show Steps p.tables e below (T26.setTop (mkF m 21 #[.val .null, rv r_1, iv (4 : Int32), iv (1 : Int32), rv s_ATTRIBUTES] [(.ref s_ATTRIBUTES)])) _
    refine st33 _ ?_
    show Steps p.tables e below (T33.setTop (mkF m 24 #[.val .null, rv r_1, iv (4 : Int32), iv (1 : Int32), rv s_ATTRIBUTES] [(.ref s_ATTRIBUTES_name)])) _
    refine XS.aloadN X33.here hx rfl (hb hby d11_24) rfl rfl ?_
    show Steps p.tables e below (T33.setTop (mkF m 25 #[.val .null, rv r_1, iv (4 : Int32), iv (1 : Int32), rv s_ATTRIBUTES] [.null, (.ref s_ATTRIBUTES_name)])) _
    refine st35.trans ?_
    show Steps p.tables e below (T35.setTop (mkF m 28 #[.val .null, rv r_1, iv (4 : Int32), iv (1 : Int32), rv s_ATTRIBUTES] [(.int (0 : Int32))])) _
    refine XS.ifYes X35.here hx rfl (pc0 := 28) (pc' := 34) rfl (hb hby d11_28) rfl ((if0 _ _).trans (teq (by decide : (0 : Int32) = (0 : Int32))).1) (by decide) (by decide) ?_
    show Steps p.tables e below (T35.setTop (mkF m 34 #[.val .null, rv r_1, iv (4 : Int32), iv (1 : Int32), rv s_ATTRIBUTES] [])) _
    refine XS.iinc X35.here hx rfl (hb hby d11_34) rfl (l' := #[.val .null, rv r_1, iv (4 : Int32), iv (2 : Int32), rv s_ATTRIBUTES]) rfl ?_
    show Steps p.tables e below (T35.setTop (mkF m 37 #[.val .null, rv r_1, iv (4 : Int32), iv (2 : Int32), rv s_ATTRIBUTES] [])) _
    refine XS.goto X35.here hx rfl (pc0 := 37) (pc' := 9) rfl (hb hby d11_37) (by decide) (by decide) ?_
    show Steps p.tables e below (T35.setTop (mkF m 9 #[.val .null, rv r_1, iv (4 : Int32), iv (2 : Int32), rv s_ATTRIBUTES] [])) _
    refine XS.iloadN X35.here hx rfl (hb hby d11_9) rfl ?_
    show Steps p.tables e below (T35.setTop (mkF m 10 #[.val .null, rv r_1, iv (4 : Int32), iv (2 : Int32), rv s_ATTRIBUTES] [(.int (2 : Int32))])) _
    refine XS.iloadN X35.here hx rfl (hb hby d11_10) rfl ?_
    show Steps p.tables e below (T35.setTop (mkF m 11 #[.val .null, rv r_1, iv (4 : Int32), iv (2 : Int32), rv s_ATTRIBUTES] [(.int (4 : Int32)), (.int (2 : Int32))])) _
    refine XS.icmpNo X35.here hx rfl (hb hby d11_11) rfl (tlt (by decide : (2 : Int32) < (4 : Int32))).2.1 ?_
    show Steps p.tables e below (T35.setTop (mkF m 14 #[.val .null, rv r_1, iv (4 : Int32), iv (2 : Int32), rv s_ATTRIBUTES] [])) _
    refine XS.aloadN X35.here hx rfl (hb hby d11_14) rfl rfl ?_
    show Steps p.tables e below (T35.setTop (mkF m 15 #[.val .null, rv r_1, iv (4 : Int32), iv (2 : Int32), rv s_ATTRIBUTES] [(.ref r_1)])) _
    refine XS.iloadN X35.here hx rfl (hb hby d11_15) rfl ?_
    show Steps p.tables e below (T35.setTop (mkF m 16 #[.val .null, rv r_1, iv (4 : Int32), iv (2 : Int32), rv s_ATTRIBUTES] [(.int (2 : Int32)), (.ref r_1)])) _
    refine X35.aaload hx (j := (2 : Int32)) (v := (.ref s_TYPES)) (by rw [K35q]; exact Ar37.1) (State.isArrayOf_alike hZ.alike Ar37.2.1) rfl Ar37.2.2 hin38 hat39 (g := (mkF m 16 #[.val .null, rv r_1, iv (4 : Int32), iv (2 : Int32), rv s_ATTRIBUTES] [(.int (2 : Int32)), (.ref r_1)])) rfl rfl (hb hby d11_16) _ ?_
    show Steps p.tables e below (T35.setTop (mkF m 17 #[.val .null, rv r_1, iv (4 : Int32), iv (2 : Int32), rv s_ATTRIBUTES] [(.ref s_TYPES)])) _
    refine XS.astore X35.here hx rfl (hb hby d11_17) rfl rfl (l' := #[.val .null, rv r_1, iv (4 : Int32), iv (2 : Int32), rv s_TYPES]) rfl ?_
    show Steps p.tables e below (T35.setTop (mkF m 19 #[.val .null, rv r_1, iv (4 : Int32), iv (2 : Int32), rv s_TYPES] [])) _
    refine XS.aload X35.here hx rfl (hb hby d11_19) rfl rfl ?_
    show Steps p.tables e below (T35.setTop (mkF m 21 #[.val .null, rv r_1, iv (4 : Int32), iv (2 : Int32), rv s_TYPES] [(.ref s_TYPES)])) _
    refine st41 _ ?_
    show Steps p.tables e below (T41.setTop (mkF m 24 #[.val .null, rv r_1, iv (4 : Int32), iv (2 : Int32), rv s_TYPES] [(.ref s_TYPES_name)])) _
    refine XS.aloadN X41.here hx rfl (hb hby d11_24) rfl rfl ?_
    show Steps p.tables e below (T41.setTop (mkF m 25 #[.val .null, rv r_1, iv (4 : Int32), iv (2 : Int32), rv s_TYPES] [.null, (.ref s_TYPES_name)])) _
    refine st43.trans ?_
    show Steps p.tables e below (T43.setTop (mkF m 28 #[.val .null, rv r_1, iv (4 : Int32), iv (2 : Int32), rv s_TYPES] [(.int (0 : Int32))])) _
    refine XS.ifYes X43.here hx rfl (pc0 := 28) (pc' := 34) rfl (hb hby d11_28) rfl ((if0 _ _).trans (teq (by decide : (0 : Int32) = (0 : Int32))).1) (by decide) (by decide) ?_
    show Steps p.tables e below (T43.setTop (mkF m 34 #[.val .null, rv r_1, iv (4 : Int32), iv (2 : Int32), rv s_TYPES] [])) _
    refine XS.iinc X43.here hx rfl (hb hby d11_34) rfl (l' := #[.val .null, rv r_1, iv (4 : Int32), iv (3 : Int32), rv s_TYPES]) rfl ?_
    show Steps p.tables e below (T43.setTop (mkF m 37 #[.val .null, rv r_1, iv (4 : Int32), iv (3 : Int32), rv s_TYPES] [])) _
    refine XS.goto X43.here hx rfl (pc0 := 37) (pc' := 9) rfl (hb hby d11_37) (by decide) (by decide) ?_
    show Steps p.tables e below (T43.setTop (mkF m 9 #[.val .null, rv r_1, iv (4 : Int32), iv (3 : Int32), rv s_TYPES] [])) _
    refine XS.iloadN X43.here hx rfl (hb hby d11_9) rfl ?_
    show Steps p.tables e below (T43.setTop (mkF m 10 #[.val .null, rv r_1, iv (4 : Int32), iv (3 : Int32), rv s_TYPES] [(.int (3 : Int32))])) _
    refine XS.iloadN X43.here hx rfl (hb hby d11_10) rfl ?_
    show Steps p.tables e below (T43.setTop (mkF m 11 #[.val .null, rv r_1, iv (4 : Int32), iv (3 : Int32), rv s_TYPES] [(.int (4 : Int32)), (.int (3 : Int32))])) _
    refine XS.icmpNo X43.here hx rfl (hb hby d11_11) rfl (tlt (by decide : (3 : Int32) < (4 : Int32))).2.1 ?_
    show Steps p.tables e below (T43.setTop (mkF m 14 #[.val .null, rv r_1, iv (4 : Int32), iv (3 : Int32), rv s_TYPES] [])) _
    refine XS.aloadN X43.here hx rfl (hb hby d11_14) rfl rfl ?_
    show Steps p.tables e below (T43.setTop (mkF m 15 #[.val .null, rv r_1, iv (4 : Int32), iv (3 : Int32), rv s_TYPES] [(.ref r_1)])) _
    refine XS.iloadN X43.here hx rfl (hb hby d11_15) rfl ?_
    show Steps p.tables e below (T43.setTop (mkF m 16 #[.val .null, rv r_1, iv (4 : Int32), iv (3 : Int32), rv s_TYPES] [(.int (3 : Int32)), (.ref r_1)])) _
    refine X43.aaload hx (j := (3 : Int32)) (v := (.ref s_LINKS)) (by rw [K43q]; exact Ar45.1) (State.isArrayOf_alike hZ.alike Ar45.2.1) rfl Ar45.2.2 hin46 hat47 (g := (mkF m 16 #[.val .null, rv r_1, iv (4 : Int32), iv (3 : Int32), rv s_TYPES] [(.int (3 : Int32)), (.ref r_1)])) rfl rfl (hb hby d11_16) _ ?_
    show Steps p.tables e below (T43.setTop (mkF m 17 #[.val .null, rv r_1, iv (4 : Int32), iv (3 : Int32), rv s_TYPES] [(.ref s_LINKS)])) _
    refine XS.astore X43.here hx rfl (hb hby d11_17) rfl rfl (l' := #[.val .null, rv r_1, iv (4 : Int32), iv (3 : Int32), rv s_LINKS]) rfl ?_
    show Steps p.tables e below (T43.setTop (mkF m 19 #[.val .null, rv r_1, iv (4 : Int32), iv (3 : Int32), rv s_LINKS] [])) _
    refine XS.aload X43.here hx rfl (hb hby d11_19) rfl rfl ?_
    show Steps p.tables e below (T43.setTop (mkF m 21 #[.val .null, rv r_1, iv (4 : Int32), iv (3 : Int32), rv s_LINKS] [(.ref s_LINKS)])) _
    refine st49 _ ?_
    show Steps p.tables e below (T49.setTop (mkF m 24 #[.val .null, rv r_1, iv (4 : Int32), iv (3 : Int32), rv s_LINKS] [(.ref s_LINKS_name)])) _
    refine XS.aloadN X49.here hx rfl (hb hby d11_24) rfl rfl ?_
    show Steps p.tables e below (T49.setTop (mkF m 25 #[.val .null, rv r_1, iv (4 : Int32), iv (3 : Int32), rv s_LINKS] [.null, (.ref s_LINKS_name)])) _
    refine st51.trans ?_
    show Steps p.tables e below (T51.setTop (mkF m 28 #[.val .null, rv r_1, iv (4 : Int32), iv (3 : Int32), rv s_LINKS] [(.int (0 : Int32))])) _
    refine XS.ifYes X51.here hx rfl (pc0 := 28) (pc' := 34) rfl (hb hby d11_28) rfl ((if0 _ _).trans (teq (by decide : (0 : Int32) = (0 : Int32))).1) (by decide) (by decide) ?_
    show Steps p.tables e below (T51.setTop (mkF m 34 #[.val .null, rv r_1, iv (4 : Int32), iv (3 : Int32), rv s_LINKS] [])) _
    refine XS.iinc X51.here hx rfl (hb hby d11_34) rfl (l' := #[.val .null, rv r_1, iv (4 : Int32), iv (4 : Int32), rv s_LINKS]) rfl ?_
    show Steps p.tables e below (T51.setTop (mkF m 37 #[.val .null, rv r_1, iv (4 : Int32), iv (4 : Int32), rv s_LINKS] [])) _
    refine XS.goto X51.here hx rfl (pc0 := 37) (pc' := 9) rfl (hb hby d11_37) (by decide) (by decide) ?_
    show Steps p.tables e below (T51.setTop (mkF m 9 #[.val .null, rv r_1, iv (4 : Int32), iv (4 : Int32), rv s_LINKS] [])) _
    refine XS.iloadN X51.here hx rfl (hb hby d11_9) rfl ?_
    show Steps p.tables e below (T51.setTop (mkF m 10 #[.val .null, rv r_1, iv (4 : Int32), iv (4 : Int32), rv s_LINKS] [(.int (4 : Int32))])) _
    refine XS.iloadN X51.here hx rfl (hb hby d11_10) rfl ?_
    show Steps p.tables e below (T51.setTop (mkF m 11 #[.val .null, rv r_1, iv (4 : Int32), iv (4 : Int32), rv s_LINKS] [(.int (4 : Int32)), (.int (4 : Int32))])) _
    refine XS.icmpYes X51.here hx rfl (pc0 := 11) (pc' := 40) rfl (hb hby d11_11) rfl (flt (by decide : ¬ ((4 : Int32) < (4 : Int32)))).2.1 (by decide) (by decide) ?_
    show Steps p.tables e below (T51.setTop (mkF m 40 #[.val .null, rv r_1, iv (4 : Int32), iv (4 : Int32), rv s_LINKS] [])) _
    refine XS.aconstNull X51.here hx rfl (hb hby d11_40) ?_
    show Steps p.tables e below (T51.setTop (mkF m 41 #[.val .null, rv r_1, iv (4 : Int32), iv (4 : Int32), rv s_LINKS] [.null])) _
    exact retOut X51 hx Bd.returns rfl (Or.inr (Or.inr (Or.inr (Or.inr ⟨rfl, rfl, rfl⟩)))) (hb hby d11_41) hr
  · show Q_rmNamN Z _ _ _ _ _ _ _ _ _ _ _ _ _ _ h0 n0 _ T51.heap _
    rw [K51q]
    exact ⟨rfl, N52, (K18)⟩
theorem own_two {c d : Int32} (hc : ¬ c < 0 ∧ ¬ (255 : Int32) < c) (hd : ¬ d < 0 ∧ ¬ (255 : Int32) < d) : ∀ z ∈ ([c, d] : List Int32), ¬ z < 0 ∧ ¬ (255 : Int32) < z := by
  intro z hz
  simp only [List.mem_cons, List.not_mem_nil, or_false] at hz
  rcases hz with rfl | rfl
  · exact hc
  · exact hd
theorem own_one {c : Int32} (hc : ¬ c < 0 ∧ ¬ (255 : Int32) < c) : ∀ z ∈ ([c] : List Int32), ¬ z < 0 ∧ ¬ (255 : Int32) < z := by
  intro z hz
  rw [List.mem_singleton] at hz
  rw [hz]; exact hc
theorem own_nil : ∀ z ∈ ([] : List Int32), ¬ z < 0 ∧ ¬ (255 : Int32) < z := by
  intro z hz
  cases hz
theorem pd_6 : parseMethodDescriptor "(I)[C" = some ⟨[.int], some (.array .char)⟩ := by decide +kernel
theorem pd_13 : parseMethodDescriptor "([C)V" = some ⟨[(.array .char)], none⟩ := by decide +kernel
theorem pd_9 : parseMethodDescriptor "(Ljava/lang/String;)Lcom/example/iskati/iskati/entity/EntityField;" = some ⟨[(.object "java/lang/String")], some (.object "com/example/iskati/iskati/entity/EntityField")⟩ := by decide +kernel
theorem own_cat {v : Value} (h : v.isRef = true) : v.category = 1 := by cases v <;> first | rfl | cases h
theorem pd_7 : parseMethodDescriptor "(IC)[C" = some ⟨[.int, .char], some (.array .char)⟩ := by decide +kernel
theorem pd_3 : parseMethodDescriptor "(C)Ljava/lang/String;" = some ⟨[.char], some (.object "java/lang/String")⟩ := by decide +kernel
theorem ef_rm0 (m : MethodId) (x0 : Int32) (x1 : Int32) (x2 : Int32) (x3 : Int32) : entryFrame m #[(.int x0), (.int x1), (.int x2), (.int x3)] maxLocals = mkF m 0 #[iv x0, iv x1, iv x2, iv x3, .unset, .unset, .unset, .unset, .unset, .unset, .unset] [] := by first | (simp [entryFrame, mkF, argsToLocals, Value.category, maxLocals]; done) | rfl
def Q_rm0 (Z : State) (p0_0 : Int32) (p0_1 : Int32) (p0_2 : Int32) (p0_3 : Int32) (s_NAMES : Addr) (s_VALUES : Addr) (s_ATTRIBUTES : Addr) (s_TYPES : Addr) (s_LINKS : Addr) (s_NAMES_name : Addr) (s_NAMES_name_value : Addr) (s_ATTRIBUTES_name : Addr) (s_ATTRIBUTES_name_value : Addr) (s_TYPES_name : Addr) (s_TYPES_name_value : Addr) (s_LINKS_name : Addr) (s_LINKS_name_value : Addr) (cs : Int32) (h0 : Heap) (n0 : Nat) (v : Option Value) (h : Heap) (L : List Loc) : Prop := v = some (.int (1 : Int32)) ∧ Fr n0 L ∧ Keep h0 h []
def own_FE (s : State) (o : Outcome) (t : State) (L : List Loc) (k n : Nat) : Prop := s.Warmed39 t.vm ∧ (∀ (j : Nat) (p : Array UInt16 × Addr), s.vm.interned.size ≤ j → t.vm.interned[j]? = some p → s.heap.size ≤ p.2 ∧ p.2 < t.heap.size) ∧ s.sameButNew { t with vm := s.vm } L k n
set_option maxRecDepth 65536 in
set_option maxHeartbeats 40000000 in
theorem rm0 (l : Launch) (Z : State) (a0 : Array Value) (hw : ∀ d ∈ tables_1, d.before a0 Z = true) (ws : List Jvm.Cond) (p0_0 : Int32) (p0_1 : Int32) (p0_2 : Int32) (p0_3 : Int32) (s_NAMES : Addr) (s_VALUES : Addr) (s_ATTRIBUTES : Addr) (s_TYPES : Addr) (s_LINKS : Addr) (s_NAMES_name : Addr) (s_NAMES_name_value : Addr) (s_ATTRIBUTES_name : Addr) (s_ATTRIBUTES_name_value : Addr) (s_TYPES_name : Addr) (s_TYPES_name_value : Addr) (s_LINKS_name : Addr) (s_LINKS_name_value : Addr) (cs : Int32) (h0 : Heap) (n0 : Nat) (Z0 : n0 ≤ h0.size) (pf_O : Old Z n0 h0) (pf_S_com_example_iskati_iskati_entity_EntityField_NAMES : Sta Z Z.heap "com/example/iskati/iskati/entity/EntityField" "NAMES" "Lcom/example/iskati/iskati/entity/EntityField;" (.ref s_NAMES)) (pf_E_s_NAMES : Exa Z h0 s_NAMES "com/example/iskati/iskati/entity/EntityField") (pf_S_com_example_iskati_iskati_entity_EntityField__VALUES : Sta Z Z.heap "com/example/iskati/iskati/entity/EntityField" "$VALUES" "[Lcom/example/iskati/iskati/entity/EntityField;" (.ref s_VALUES)) (pf_E_s_VALUES : Exa Z h0 s_VALUES "[Lcom/example/iskati/iskati/entity/EntityField;") (pf_S_com_example_iskati_iskati_entity_EntityField_ATTRIBUTES : Sta Z Z.heap "com/example/iskati/iskati/entity/EntityField" "ATTRIBUTES" "Lcom/example/iskati/iskati/entity/EntityField;" (.ref s_ATTRIBUTES)) (pf_E_s_ATTRIBUTES : Exa Z h0 s_ATTRIBUTES "com/example/iskati/iskati/entity/EntityField") (pf_S_com_example_iskati_iskati_entity_EntityField_TYPES : Sta Z Z.heap "com/example/iskati/iskati/entity/EntityField" "TYPES" "Lcom/example/iskati/iskati/entity/EntityField;" (.ref s_TYPES)) (pf_E_s_TYPES : Exa Z h0 s_TYPES "com/example/iskati/iskati/entity/EntityField") (pf_S_com_example_iskati_iskati_entity_EntityField_LINKS : Sta Z Z.heap "com/example/iskati/iskati/entity/EntityField" "LINKS" "Lcom/example/iskati/iskati/entity/EntityField;" (.ref s_LINKS)) (pf_E_s_LINKS : Exa Z h0 s_LINKS "com/example/iskati/iskati/entity/EntityField") (pf_F_s_NAMES_name : Fld Z h0 s_NAMES "com/example/iskati/iskati/entity/EntityField" "name" "Ljava/lang/String;" (.ref s_NAMES_name)) (pf_E_s_NAMES_name : Exa Z h0 s_NAMES_name "java/lang/String") (pf_F_s_NAMES_name_coder : Fld Z h0 s_NAMES_name "java/lang/String" "coder" "B" (.int (0 : Int32))) (pf_F_s_NAMES_name_value : Fld Z h0 s_NAMES_name "java/lang/String" "value" "[B" (.ref s_NAMES_name_value)) (pf_F_s_ATTRIBUTES_name : Fld Z h0 s_ATTRIBUTES "com/example/iskati/iskati/entity/EntityField" "name" "Ljava/lang/String;" (.ref s_ATTRIBUTES_name)) (pf_E_s_ATTRIBUTES_name : Exa Z h0 s_ATTRIBUTES_name "java/lang/String") (pf_F_s_ATTRIBUTES_name_coder : Fld Z h0 s_ATTRIBUTES_name "java/lang/String" "coder" "B" (.int (0 : Int32))) (pf_F_s_ATTRIBUTES_name_value : Fld Z h0 s_ATTRIBUTES_name "java/lang/String" "value" "[B" (.ref s_ATTRIBUTES_name_value)) (pf_F_s_TYPES_name : Fld Z h0 s_TYPES "com/example/iskati/iskati/entity/EntityField" "name" "Ljava/lang/String;" (.ref s_TYPES_name)) (pf_E_s_TYPES_name : Exa Z h0 s_TYPES_name "java/lang/String") (pf_F_s_TYPES_name_coder : Fld Z h0 s_TYPES_name "java/lang/String" "coder" "B" (.int (0 : Int32))) (pf_F_s_TYPES_name_value : Fld Z h0 s_TYPES_name "java/lang/String" "value" "[B" (.ref s_TYPES_name_value)) (pf_F_s_LINKS_name : Fld Z h0 s_LINKS "com/example/iskati/iskati/entity/EntityField" "name" "Ljava/lang/String;" (.ref s_LINKS_name)) (pf_E_s_LINKS_name : Exa Z h0 s_LINKS_name "java/lang/String") (pf_F_s_LINKS_name_coder : Fld Z h0 s_LINKS_name "java/lang/String" "coder" "B" (.int (0 : Int32))) (pf_F_s_LINKS_name_value : Fld Z h0 s_LINKS_name "java/lang/String" "value" "[B" (.ref s_LINKS_name_value)) (pf_A_s_VALUES : Av Z h0 s_VALUES (.object "com/example/iskati/iskati/entity/EntityField") (4 : Int32) [(.ref s_NAMES), (.ref s_ATTRIBUTES), (.ref s_TYPES), (.ref s_LINKS)] .null) (pf_A_s_NAMES_name_value : Av Z h0 s_NAMES_name_value .byte (5 : Int32) (own_vs own_L1) (.int (0 : Int32))) (pf_A_s_ATTRIBUTES_name_value : Av Z h0 s_ATTRIBUTES_name_value .byte (10 : Int32) (own_vs own_L2) (.int (0 : Int32))) (pf_A_s_TYPES_name_value : Av Z h0 s_TYPES_name_value .byte (5 : Int32) (own_vs own_L3) (.int (0 : Int32))) (pf_A_s_LINKS_name_value : Av Z h0 s_LINKS_name_value .byte (5 : Int32) (own_vs own_L4) (.int (0 : Int32))) (pf_S_java_lang_String_COMPACT_STRINGS : Sta Z Z.heap "java/lang/String" "COMPACT_STRINGS" "Z" (.int cs)) (hcs : ¬ (cs = (0 : Int32))) :
    MetFree l x (head1 (Jvm.Cond.code x code maxLocals ret :: ws) room_1) (fun a U => a = #[(.int p0_0), (.int p0_1), (.int p0_2), (.int p0_3)] ∧ Z.Warmed39 U.vm ∧ U.heap = h0 ∧ CHv Z consts_1 U.vm h0) (fun _ _ _ _ _ => True) (fun _ U o U' => ∃ v L, o = .returned v ∧ Q_rm0 Z p0_0 p0_1 p0_2 p0_3 s_NAMES s_VALUES s_ATTRIBUTES s_TYPES s_LINKS s_NAMES_name s_NAMES_name_value s_ATTRIBUTES_name s_ATTRIBUTES_name_value s_TYPES_name s_TYPES_name_value s_LINKS_name s_LINKS_name_value cs h0 n0 v U'.heap L ∧ own_FE U o U' L room_1.cells room_1.slots) := by
  refine MetFree.of_bodySF (plainFor_of_name pn_com_example_iskati_iskati_entity_EntityFieldNamedPinLaw) hisR ?_
  intro p e s m args below meth c s₁ Bd hml0 hP hK
  obtain ⟨rfl, hZ, hh, CH0⟩ := hP
  have hx := Bd.exec
  have hby := Bd.bytes
  have hml : c.maxLocals = 11 := hml0
  have hown : s.vm.findClass "com/example/iskati/iskati/entity/EntityFieldNamedPinLaw" = some m.cls := findClass_of_methodNamed Bd.named
  have hnm := (name_of_methodNamed Bd.named Bd.method).1
  have X0 : Stand p l e room_1 s m #[(.int p0_0), (.int p0_1), (.int p0_2), (.int p0_3)] below meth c s₁ [] 0 0 := Stand.of_body Bd
  have e0 : s₁.heap = h0 := by rw [← hh, Bd.state]; rfl
  have N0 := Fr.nil n0
  have pre0 : ∀ t, Steps p.tables e below (s₁.setTop (mkF m 0 #[iv p0_0, iv p0_1, iv p0_2, iv p0_3, .unset, .unset, .unset, .unset, .unset, .unset, .unset] [])) t → Steps p.tables e below (s₁.setTop (entryFrame m #[(.int p0_0), (.int p0_1), (.int p0_2), (.int p0_3)] maxLocals)) t := fun t k => castTop (ef_rm0 m p0_0 p0_1 p0_2 p0_3) k
  have CR0 := CHr.refl CH0
  have hEL := own_EW hw
  have wo0 := hw _ (List.mem_of_getElem? (i := 0) rfl)
  have wo1 := hw _ (List.mem_of_getElem? (i := 1) rfl)
  have wo2 := hw _ (List.mem_of_getElem? (i := 2) rfl)
  have wo3 := hw _ (List.mem_of_getElem? (i := 3) rfl)
  have wo4 := hw _ (List.mem_of_getElem? (i := 4) rfl)
  have wo5 := hw _ (List.mem_of_getElem? (i := 5) rfl)
  have wo6 := hw _ (List.mem_of_getElem? (i := 6) rfl)
  have wo7 := hw _ (List.mem_of_getElem? (i := 7) rfl)
  have wo8 := hw _ (List.mem_of_getElem? (i := 8) rfl)
  have wo9 := hw _ (List.mem_of_getElem? (i := 9) rfl)
  have wo10 := hw _ (List.mem_of_getElem? (i := 10) rfl)
  have wo31 := hw _ (List.mem_of_getElem? (i := 31) rfl)
  have wo33 := hw _ (List.mem_of_getElem? (i := 33) rfl)
  have wo34 := hw _ (List.mem_of_getElem? (i := 34) rfl)
  have wo35 := hw _ (List.mem_of_getElem? (i := 35) rfl)
  have wo36 := hw _ (List.mem_of_getElem? (i := 36) rfl)
  have wo51 := hw _ (List.mem_of_getElem? (i := 51) rfl)
  have wo53 := hw _ (List.mem_of_getElem? (i := 53) rfl)
  have wo54 := hw _ (List.mem_of_getElem? (i := 54) rfl)
  have wo55 := hw _ (List.mem_of_getElem? (i := 55) rfl)
  have wo77 := hw _ (List.mem_of_getElem? (i := 77) rfl)
  have wo78 := hw _ (List.mem_of_getElem? (i := 78) rfl)
  have wo79 := hw _ (List.mem_of_getElem? (i := 79) rfl)
  have wo83 := hw _ (List.mem_of_getElem? (i := 83) rfl)
  have wo84 := hw _ (List.mem_of_getElem? (i := 84) rfl)
  have wo85 := hw _ (List.mem_of_getElem? (i := 85) rfl)
  have wo97 := hw _ (List.mem_of_getElem? (i := 97) rfl)
  have wo98 := hw _ (List.mem_of_getElem? (i := 98) rfl)
  have wo99 := hw _ (List.mem_of_getElem? (i := 99) rfl)
  have wo100 := hw _ (List.mem_of_getElem? (i := 100) rfl)
  have wo102 := hw _ (List.mem_of_getElem? (i := 102) rfl)
  obtain ⟨kk, h_kk⟩ : ∃ z : Int32, z = (p0_0 &&& (3 : Int32)) := ⟨_, rfl⟩
  obtain ⟨md, h_md⟩ : ∃ z : Int32, z = (((p0_0.toUInt32 >>> ((2 : Int32) &&& 31).toUInt32).toInt32) &&& (7 : Int32)) := ⟨_, rfl⟩
  obtain ⟨c1, h_c1⟩ : ∃ z : Int32, z = ((p0_2 &&& (255 : Int32)).toUInt32.toUInt16.toUInt32.toInt32) := ⟨_, rfl⟩
  have hrc1 : ¬ c1 < 0 ∧ ¬ (255 : Int32) < c1 := by rw [h_c1, i2c_mask]; exact own_mask8 _
  obtain ⟨c2, h_c2⟩ : ∃ z : Int32, z = ((p0_3 &&& (255 : Int32)).toUInt32.toUInt16.toUInt32.toInt32) := ⟨_, rfl⟩
  have hrc2 : ¬ c2 < 0 ∧ ¬ (255 : Int32) < c2 := by rw [h_c2, i2c_mask]; exact own_mask8 _
  have pre2 : ∀ t, Steps p.tables e below (s₁.setTop (mkF m 31 #[iv p0_0, iv p0_1, iv p0_2, iv p0_3, iv kk, iv md, iv c1, iv c2, .unset, .unset, .unset] [(.int md)])) t → Steps p.tables e below (s₁.setTop (entryFrame m #[(.int p0_0), (.int p0_1), (.int p0_2), (.int p0_3)] maxLocals)) t := by
    intro t_ k_
    refine pre0 _ ?_
    show Steps p.tables e below (s₁.setTop (mkF m 0 #[iv p0_0, iv p0_1, iv p0_2, iv p0_3, .unset, .unset, .unset, .unset, .unset, .unset, .unset] [])) _
    refine XS.iloadN X0.here hx rfl (hb hby at_0) rfl ?_
    show Steps p.tables e below (s₁.setTop (mkF m 1 #[iv p0_0, iv p0_1, iv p0_2, iv p0_3, .unset, .unset, .unset, .unset, .unset, .unset, .unset] [(.int p0_0)])) _
    refine XS.iconst X0.here hx rfl (hb hby at_1) ?_
    show Steps p.tables e below (s₁.setTop (mkF m 2 #[iv p0_0, iv p0_1, iv p0_2, iv p0_3, .unset, .unset, .unset, .unset, .unset, .unset, .unset] [(.int (3 : Int32)), (.int p0_0)])) _
    refine XS.iand X0.here hx rfl (hb hby at_2) rfl ?_
    show Steps p.tables e below (s₁.setTop (mkF m 3 #[iv p0_0, iv p0_1, iv p0_2, iv p0_3, .unset, .unset, .unset, .unset, .unset, .unset, .unset] [(.int (p0_0 &&& (3 : Int32)))])) _
    refine XS.istore X0.here hx rfl (hb hby at_3) rfl (l' := #[iv p0_0, iv p0_1, iv p0_2, iv p0_3, iv (p0_0 &&& (3 : Int32)), .unset, .unset, .unset, .unset, .unset, .unset]) rfl ?_
    show Steps p.tables e below (s₁.setTop (mkF m 5 #[iv p0_0, iv p0_1, iv p0_2, iv p0_3, iv (p0_0 &&& (3 : Int32)), .unset, .unset, .unset, .unset, .unset, .unset] [])) _
    refine XS.iloadN X0.here hx rfl (hb hby at_5) rfl ?_
    show Steps p.tables e below (s₁.setTop (mkF m 6 #[iv p0_0, iv p0_1, iv p0_2, iv p0_3, iv (p0_0 &&& (3 : Int32)), .unset, .unset, .unset, .unset, .unset, .unset] [(.int p0_0)])) _
    refine XS.iconst X0.here hx rfl (hb hby at_6) ?_
    show Steps p.tables e below (s₁.setTop (mkF m 7 #[iv p0_0, iv p0_1, iv p0_2, iv p0_3, iv (p0_0 &&& (3 : Int32)), .unset, .unset, .unset, .unset, .unset, .unset] [(.int (2 : Int32)), (.int p0_0)])) _
    refine XS.iushr X0.here hx rfl (hb hby at_7) rfl ?_
    show Steps p.tables e below (s₁.setTop (mkF m 8 #[iv p0_0, iv p0_1, iv p0_2, iv p0_3, iv (p0_0 &&& (3 : Int32)), .unset, .unset, .unset, .unset, .unset, .unset] [(.int ((p0_0.toUInt32 >>> ((2 : Int32) &&& 31).toUInt32).toInt32))])) _
    refine XS.bipush X0.here hx rfl (hb hby at_8) ?_
    show Steps p.tables e below (s₁.setTop (mkF m 10 #[iv p0_0, iv p0_1, iv p0_2, iv p0_3, iv (p0_0 &&& (3 : Int32)), .unset, .unset, .unset, .unset, .unset, .unset] [(.int (7 : Int32)), (.int ((p0_0.toUInt32 >>> ((2 : Int32) &&& 31).toUInt32).toInt32))])) _
    refine XS.iand X0.here hx rfl (hb hby at_10) rfl ?_
    show Steps p.tables e below (s₁.setTop (mkF m 11 #[iv p0_0, iv p0_1, iv p0_2, iv p0_3, iv (p0_0 &&& (3 : Int32)), .unset, .unset, .unset, .unset, .unset, .unset] [(.int (((p0_0.toUInt32 >>> ((2 : Int32) &&& 31).toUInt32).toInt32) &&& (7 : Int32)))])) _
    refine XS.istore X0.here hx rfl (hb hby at_11) rfl (l' := #[iv p0_0, iv p0_1, iv p0_2, iv p0_3, iv (p0_0 &&& (3 : Int32)), iv (((p0_0.toUInt32 >>> ((2 : Int32) &&& 31).toUInt32).toInt32) &&& (7 : Int32)), .unset, .unset, .unset, .unset, .unset]) rfl ?_
    show Steps p.tables e below (s₁.setTop (mkF m 13 #[iv p0_0, iv p0_1, iv p0_2, iv p0_3, iv (p0_0 &&& (3 : Int32)), iv (((p0_0.toUInt32 >>> ((2 : Int32) &&& 31).toUInt32).toInt32) &&& (7 : Int32)), .unset, .unset, .unset, .unset, .unset] [])) _
    refine XS.iloadN X0.here hx rfl (hb hby at_13) rfl ?_
    show Steps p.tables e below (s₁.setTop (mkF m 14 #[iv p0_0, iv p0_1, iv p0_2, iv p0_3, iv (p0_0 &&& (3 : Int32)), iv (((p0_0.toUInt32 >>> ((2 : Int32) &&& 31).toUInt32).toInt32) &&& (7 : Int32)), .unset, .unset, .unset, .unset, .unset] [(.int p0_2)])) _
    refine XS.sipush X0.here hx rfl (hb hby at_14) ?_
    show Steps p.tables e below (s₁.setTop (mkF m 17 #[iv p0_0, iv p0_1, iv p0_2, iv p0_3, iv (p0_0 &&& (3 : Int32)), iv (((p0_0.toUInt32 >>> ((2 : Int32) &&& 31).toUInt32).toInt32) &&& (7 : Int32)), .unset, .unset, .unset, .unset, .unset] [(.int (255 : Int32)), (.int p0_2)])) _
    refine XS.iand X0.here hx rfl (hb hby at_17) rfl ?_
    show Steps p.tables e below (s₁.setTop (mkF m 18 #[iv p0_0, iv p0_1, iv p0_2, iv p0_3, iv (p0_0 &&& (3 : Int32)), iv (((p0_0.toUInt32 >>> ((2 : Int32) &&& 31).toUInt32).toInt32) &&& (7 : Int32)), .unset, .unset, .unset, .unset, .unset] [(.int (p0_2 &&& (255 : Int32)))])) _
    refine XS.i2c X0.here hx rfl (hb hby at_18) rfl ?_
    show Steps p.tables e below (s₁.setTop (mkF m 19 #[iv p0_0, iv p0_1, iv p0_2, iv p0_3, iv (p0_0 &&& (3 : Int32)), iv (((p0_0.toUInt32 >>> ((2 : Int32) &&& 31).toUInt32).toInt32) &&& (7 : Int32)), .unset, .unset, .unset, .unset, .unset] [(.int ((p0_2 &&& (255 : Int32)).toUInt32.toUInt16.toUInt32.toInt32))])) _
    refine XS.istore X0.here hx rfl (hb hby at_19) rfl (l' := #[iv p0_0, iv p0_1, iv p0_2, iv p0_3, iv (p0_0 &&& (3 : Int32)), iv (((p0_0.toUInt32 >>> ((2 : Int32) &&& 31).toUInt32).toInt32) &&& (7 : Int32)), iv ((p0_2 &&& (255 : Int32)).toUInt32.toUInt16.toUInt32.toInt32), .unset, .unset, .unset, .unset]) rfl ?_
    show Steps p.tables e below (s₁.setTop (mkF m 21 #[iv p0_0, iv p0_1, iv p0_2, iv p0_3, iv (p0_0 &&& (3 : Int32)), iv (((p0_0.toUInt32 >>> ((2 : Int32) &&& 31).toUInt32).toInt32) &&& (7 : Int32)), iv ((p0_2 &&& (255 : Int32)).toUInt32.toUInt16.toUInt32.toInt32), .unset, .unset, .unset, .unset] [])) _
    refine XS.iloadN X0.here hx rfl (hb hby at_21) rfl ?_
    show Steps p.tables e below (s₁.setTop (mkF m 22 #[iv p0_0, iv p0_1, iv p0_2, iv p0_3, iv (p0_0 &&& (3 : Int32)), iv (((p0_0.toUInt32 >>> ((2 : Int32) &&& 31).toUInt32).toInt32) &&& (7 : Int32)), iv ((p0_2 &&& (255 : Int32)).toUInt32.toUInt16.toUInt32.toInt32), .unset, .unset, .unset, .unset] [(.int p0_3)])) _
    refine XS.sipush X0.here hx rfl (hb hby at_22) ?_
    show Steps p.tables e below (s₁.setTop (mkF m 25 #[iv p0_0, iv p0_1, iv p0_2, iv p0_3, iv (p0_0 &&& (3 : Int32)), iv (((p0_0.toUInt32 >>> ((2 : Int32) &&& 31).toUInt32).toInt32) &&& (7 : Int32)), iv ((p0_2 &&& (255 : Int32)).toUInt32.toUInt16.toUInt32.toInt32), .unset, .unset, .unset, .unset] [(.int (255 : Int32)), (.int p0_3)])) _
    refine XS.iand X0.here hx rfl (hb hby at_25) rfl ?_
    show Steps p.tables e below (s₁.setTop (mkF m 26 #[iv p0_0, iv p0_1, iv p0_2, iv p0_3, iv (p0_0 &&& (3 : Int32)), iv (((p0_0.toUInt32 >>> ((2 : Int32) &&& 31).toUInt32).toInt32) &&& (7 : Int32)), iv ((p0_2 &&& (255 : Int32)).toUInt32.toUInt16.toUInt32.toInt32), .unset, .unset, .unset, .unset] [(.int (p0_3 &&& (255 : Int32)))])) _
    refine XS.i2c X0.here hx rfl (hb hby at_26) rfl ?_
    show Steps p.tables e below (s₁.setTop (mkF m 27 #[iv p0_0, iv p0_1, iv p0_2, iv p0_3, iv (p0_0 &&& (3 : Int32)), iv (((p0_0.toUInt32 >>> ((2 : Int32) &&& 31).toUInt32).toInt32) &&& (7 : Int32)), iv ((p0_2 &&& (255 : Int32)).toUInt32.toUInt16.toUInt32.toInt32), .unset, .unset, .unset, .unset] [(.int ((p0_3 &&& (255 : Int32)).toUInt32.toUInt16.toUInt32.toInt32))])) _
    refine XS.istore X0.here hx rfl (hb hby at_27) rfl (l' := #[iv p0_0, iv p0_1, iv p0_2, iv p0_3, iv (p0_0 &&& (3 : Int32)), iv (((p0_0.toUInt32 >>> ((2 : Int32) &&& 31).toUInt32).toInt32) &&& (7 : Int32)), iv ((p0_2 &&& (255 : Int32)).toUInt32.toUInt16.toUInt32.toInt32), iv ((p0_3 &&& (255 : Int32)).toUInt32.toUInt16.toUInt32.toInt32), .unset, .unset, .unset]) rfl ?_
    show Steps p.tables e below (s₁.setTop (mkF m 29 #[iv p0_0, iv p0_1, iv p0_2, iv p0_3, iv (p0_0 &&& (3 : Int32)), iv (((p0_0.toUInt32 >>> ((2 : Int32) &&& 31).toUInt32).toInt32) &&& (7 : Int32)), iv ((p0_2 &&& (255 : Int32)).toUInt32.toUInt16.toUInt32.toInt32), iv ((p0_3 &&& (255 : Int32)).toUInt32.toUInt16.toUInt32.toInt32), .unset, .unset, .unset] [])) _
    rw [← h_kk]
    show Steps p.tables e below (s₁.setTop (mkF m 29 #[iv p0_0, iv p0_1, iv p0_2, iv p0_3, iv kk, iv (((p0_0.toUInt32 >>> ((2 : Int32) &&& 31).toUInt32).toInt32) &&& (7 : Int32)), iv ((p0_2 &&& (255 : Int32)).toUInt32.toUInt16.toUInt32.toInt32), iv ((p0_3 &&& (255 : Int32)).toUInt32.toUInt16.toUInt32.toInt32), .unset, .unset, .unset] [])) _
    show Steps p.tables e below (s₁.setTop (mkF m 29 #[iv p0_0, iv p0_1, iv p0_2, iv p0_3, iv kk, iv (((p0_0.toUInt32 >>> ((2 : Int32) &&& 31).toUInt32).toInt32) &&& (7 : Int32)), iv ((p0_2 &&& (255 : Int32)).toUInt32.toUInt16.toUInt32.toInt32), iv ((p0_3 &&& (255 : Int32)).toUInt32.toUInt16.toUInt32.toInt32), .unset, .unset, .unset] [])) _
    rw [← h_md]
    show Steps p.tables e below (s₁.setTop (mkF m 29 #[iv p0_0, iv p0_1, iv p0_2, iv p0_3, iv kk, iv md, iv ((p0_2 &&& (255 : Int32)).toUInt32.toUInt16.toUInt32.toInt32), iv ((p0_3 &&& (255 : Int32)).toUInt32.toUInt16.toUInt32.toInt32), .unset, .unset, .unset] [])) _
    show Steps p.tables e below (s₁.setTop (mkF m 29 #[iv p0_0, iv p0_1, iv p0_2, iv p0_3, iv kk, iv md, iv ((p0_2 &&& (255 : Int32)).toUInt32.toUInt16.toUInt32.toInt32), iv ((p0_3 &&& (255 : Int32)).toUInt32.toUInt16.toUInt32.toInt32), .unset, .unset, .unset] [])) _
    rw [← h_c1]
    show Steps p.tables e below (s₁.setTop (mkF m 29 #[iv p0_0, iv p0_1, iv p0_2, iv p0_3, iv kk, iv md, iv c1, iv ((p0_3 &&& (255 : Int32)).toUInt32.toUInt16.toUInt32.toInt32), .unset, .unset, .unset] [])) _
    show Steps p.tables e below (s₁.setTop (mkF m 29 #[iv p0_0, iv p0_1, iv p0_2, iv p0_3, iv kk, iv md, iv c1, iv ((p0_3 &&& (255 : Int32)).toUInt32.toUInt16.toUInt32.toInt32), .unset, .unset, .unset] [])) _
    rw [← h_c2]
    show Steps p.tables e below (s₁.setTop (mkF m 29 #[iv p0_0, iv p0_1, iv p0_2, iv p0_3, iv kk, iv md, iv c1, iv c2, .unset, .unset, .unset] [])) _
    show Steps p.tables e below (s₁.setTop (mkF m 29 #[iv p0_0, iv p0_1, iv p0_2, iv p0_3, iv kk, iv md, iv c1, iv c2, .unset, .unset, .unset] [])) _
    refine XS.iload X0.here hx rfl (hb hby at_29) rfl ?_
    exact k_
  by_cases hc31_1 : md = (0 : Int32)
  · skip
    obtain ⟨T3, h3, X3, e3, E3, A3, D3, -, st3⟩ := newO X0 hx hZ hown wo0 wo1 wo2 e0 (g := (mkF m 34 #[iv p0_0, iv p0_1, iv p0_2, iv p0_3, iv kk, iv md, iv c1, iv c2, .unset, .unset, .unset] [])) rfl (hb hby at_34) (by decide) (by decide)
    obtain ⟨b3, gg3⟩ : ∃ z, z = h0.size := ⟨_, rfl⟩
    rw [← gg3] at A3 D3 st3
    have ne4 : s_NAMES ≠ b3 := Nat.ne_of_lt (Nat.lt_of_lt_of_le pf_E_s_NAMES.lt (Nat.le_of_eq gg3.symm))
    have ne5 : s_VALUES ≠ b3 := Nat.ne_of_lt (Nat.lt_of_lt_of_le pf_E_s_VALUES.lt (Nat.le_of_eq gg3.symm))
    have ne6 : s_ATTRIBUTES ≠ b3 := Nat.ne_of_lt (Nat.lt_of_lt_of_le pf_E_s_ATTRIBUTES.lt (Nat.le_of_eq gg3.symm))
    have ne7 : s_TYPES ≠ b3 := Nat.ne_of_lt (Nat.lt_of_lt_of_le pf_E_s_TYPES.lt (Nat.le_of_eq gg3.symm))
    have ne8 : s_LINKS ≠ b3 := Nat.ne_of_lt (Nat.lt_of_lt_of_le pf_E_s_LINKS.lt (Nat.le_of_eq gg3.symm))
    have ne9 : s_NAMES_name ≠ b3 := Nat.ne_of_lt (Nat.lt_of_lt_of_le pf_E_s_NAMES_name.lt (Nat.le_of_eq gg3.symm))
    have ne10 : s_ATTRIBUTES_name ≠ b3 := Nat.ne_of_lt (Nat.lt_of_lt_of_le pf_E_s_ATTRIBUTES_name.lt (Nat.le_of_eq gg3.symm))
    have ne11 : s_TYPES_name ≠ b3 := Nat.ne_of_lt (Nat.lt_of_lt_of_le pf_E_s_TYPES_name.lt (Nat.le_of_eq gg3.symm))
    have ne12 : s_LINKS_name ≠ b3 := Nat.ne_of_lt (Nat.lt_of_lt_of_le pf_E_s_LINKS_name.lt (Nat.le_of_eq gg3.symm))
    have ne13 : s_NAMES_name_value ≠ b3 := Nat.ne_of_lt (Nat.lt_of_lt_of_le pf_A_s_NAMES_name_value.lt (Nat.le_of_eq gg3.symm))
    have ne14 : s_ATTRIBUTES_name_value ≠ b3 := Nat.ne_of_lt (Nat.lt_of_lt_of_le pf_A_s_ATTRIBUTES_name_value.lt (Nat.le_of_eq gg3.symm))
    have ne15 : s_TYPES_name_value ≠ b3 := Nat.ne_of_lt (Nat.lt_of_lt_of_le pf_A_s_TYPES_name_value.lt (Nat.le_of_eq gg3.symm))
    have ne16 : s_LINKS_name_value ≠ b3 := Nat.ne_of_lt (Nat.lt_of_lt_of_le pf_A_s_LINKS_name_value.lt (Nat.le_of_eq gg3.symm))
    have g17 : n0 ≤ b3 := Nat.le_trans Z0 (Nat.le_of_eq gg3.symm)
    have bz18 : h0.size ≤ b3 := Nat.le_trans (Keep.refl h0 []).1 (Nat.le_of_eq gg3.symm)
    have CS19 : CHr Z consts_1 s.vm h0 s.vm h3 := (CHr.ext E3 CR0.1)
    have CR20 := CR0.trans CS19
    have K21 : Keep h0 h3 [] := (Keep.refl h0 []).ext E3
    have f22 : Fld Z h3 b3 "java/lang/String" "coder" "B" (.int (0 : Int32)) := D3 (Or.inr wo31) (ty := .byte) (by decide)
    have f23 : Fld Z h3 b3 "java/lang/String" "value" "[B" .null := D3 (Or.inr wo33) (ty := (.array .byte)) (by decide)
    have f25 := (Nat.le_trans Z0 E3.1)
    obtain ⟨_, _, ⟨T24, L24, k24, n24⟩, -, X24, ⟨Lc24, hQ24, l24, y24, z24⟩, st24⟩ := Jvm.LawKit.callS X3 hx (y := MN1) hown (mvT hZ wo3) (mvT hZ wo4) (mvT hZ wo5) (mvT hZ wo6) (by decide) (backOf (W := 2) (rm1 l Z a0 hw [] kk h3 n0 f25 ) hZ wo6 wo5 (by decide) (by decide)) (g := (mkF m 40 #[iv p0_0, iv p0_1, iv p0_2, iv p0_3, iv kk, iv md, iv c1, iv c2, .unset, .unset, .unset] [(.int kk), (.ref b3), (.ref b3)])) rfl (by rw [hml]; rfl) (argsL := [(.int kk)]) (rest := [(.ref b3), (.ref b3)]) (lenOf pd_6 rfl) rfl (by show 2 * 0 + _ ≤ _; exact Nat.le_of_eq rfl) (hb hby at_40) (fun _ _ => ⟨rfl, e3, (by decide : 1 + 1 ≤ _), (by decide : 4 + 10 ≤ _)⟩)
    dsimp only [Pt.U, Pt.locs, Pt.cells, Pt.slots] at X24 l24 y24 z24 st24 hQ24
    rw [l24, y24, z24] at X24
    obtain ⟨r_24, rfl, N24q, K24q, hq24_0, hq24_1⟩ := hQ24
    have N26 := Fr.app N0 N24q
    have f27 := (pf_E_s_NAMES.ext E3)
    have ne28 : s_NAMES ≠ r_24 := Nat.ne_of_lt (Nat.lt_of_lt_of_le f27.lt hq24_0)
    have f29 := (pf_E_s_VALUES.ext E3)
    have ne30 : s_VALUES ≠ r_24 := Nat.ne_of_lt (Nat.lt_of_lt_of_le f29.lt hq24_0)
    have f31 := (pf_E_s_ATTRIBUTES.ext E3)
    have ne32 : s_ATTRIBUTES ≠ r_24 := Nat.ne_of_lt (Nat.lt_of_lt_of_le f31.lt hq24_0)
    have f33 := (pf_E_s_TYPES.ext E3)
    have ne34 : s_TYPES ≠ r_24 := Nat.ne_of_lt (Nat.lt_of_lt_of_le f33.lt hq24_0)
    have f35 := (pf_E_s_LINKS.ext E3)
    have ne36 : s_LINKS ≠ r_24 := Nat.ne_of_lt (Nat.lt_of_lt_of_le f35.lt hq24_0)
    have f37 := (pf_E_s_NAMES_name.ext E3)
    have ne38 : s_NAMES_name ≠ r_24 := Nat.ne_of_lt (Nat.lt_of_lt_of_le f37.lt hq24_0)
    have f39 := (pf_E_s_ATTRIBUTES_name.ext E3)
    have ne40 : s_ATTRIBUTES_name ≠ r_24 := Nat.ne_of_lt (Nat.lt_of_lt_of_le f39.lt hq24_0)
    have f41 := (pf_E_s_TYPES_name.ext E3)
    have ne42 : s_TYPES_name ≠ r_24 := Nat.ne_of_lt (Nat.lt_of_lt_of_le f41.lt hq24_0)
    have f43 := (pf_E_s_LINKS_name.ext E3)
    have ne44 : s_LINKS_name ≠ r_24 := Nat.ne_of_lt (Nat.lt_of_lt_of_le f43.lt hq24_0)
    have f45 := (pf_A_s_NAMES_name_value.ext E3)
    have ne46 : s_NAMES_name_value ≠ r_24 := Nat.ne_of_lt (Nat.lt_of_lt_of_le f45.lt hq24_0)
    have f47 := (pf_A_s_ATTRIBUTES_name_value.ext E3)
    have ne48 : s_ATTRIBUTES_name_value ≠ r_24 := Nat.ne_of_lt (Nat.lt_of_lt_of_le f47.lt hq24_0)
    have f49 := (pf_A_s_TYPES_name_value.ext E3)
    have ne50 : s_TYPES_name_value ≠ r_24 := Nat.ne_of_lt (Nat.lt_of_lt_of_le f49.lt hq24_0)
    have f51 := (pf_A_s_LINKS_name_value.ext E3)
    have ne52 : s_LINKS_name_value ≠ r_24 := Nat.ne_of_lt (Nat.lt_of_lt_of_le f51.lt hq24_0)
    have ne53 : b3 ≠ r_24 := Nat.ne_of_lt (Nat.lt_of_lt_of_le A3.lt hq24_0)
    have g54 : n0 ≤ r_24 := Nat.le_trans f25 hq24_0
    have bz55 : h0.size ≤ r_24 := Nat.le_trans (K21).1 hq24_0
    have CS56 : CHr Z consts_1 s.vm h3 s.vm (T24.heap) := (CHr.keep K24q all0 CR20.1)
    have CR57 := CR20.trans CS56
    have K58 : Keep h0 T24.heap [] := (K21).trans K24q all0
    obtain ⟨kc59, Vc59⟩ := id hq24_1
    have hws59 : ∀ d ∈ StrChars.Road.words, d.before a0 Z = true := fun d hd => hw d ((by decide +kernel : ∀ d ∈ StrChars.Road.words, d ∈ tables_1) d hd)
    have hbd59 : ((own_base kk) : List Int32).length ≤ 10 := (own_base0 kk).2.1
    have f60 := ((pf_O.ext E3).keep K24q all0)
    have f61 := (Nat.le_trans f25 K24q.1)
    have f62 := (A3.keep K24q)
    have f63 := (f23.keep K24q nin0)
    have f64 := (f22.keep K24q nin0)
    obtain ⟨_, _, ⟨T59, L59, k59, n59⟩, -, X59, ⟨Lc59, hQ59, l59, y59, z59⟩, st59⟩ := X24.specialBack hx (y := MN2) rfl hown (mvT hZ wo8) (mvT hZ wo9) (mvT hZ wo10) (by decide) (StrChars.Road.backV (W := 1) hZ hws59 (kI := 4) wo1 (cs := ((own_base kk) : List Int32)) (bs := ((own_base kk) : List Int32).map (fun c => c.toInt8.toInt32)) (n := ((own_base kk) : List Int32).length) g17 f61 f62 f63 f64 Vc59 (pf_S_java_lang_String_COMPACT_STRINGS.ext f60.2) hcs rfl rfl (own_base0 kk).1 (Nat.le_trans hbd59 (by decide)) (own_baser kk) rfl (by decide) (by decide)) (g := (mkF m 43 #[iv p0_0, iv p0_1, iv p0_2, iv p0_3, iv kk, iv md, iv c1, iv c2, .unset, .unset, .unset] [(.ref r_24), (.ref b3), (.ref b3)])) rfl (by rw [hml]; rfl) (Steps.refl _) (a := b3) (argsL := [(.ref r_24)]) (rest := [(.ref b3)]) (lenOf pd_13 rfl) rfl (by show 2 * 0 + _ ≤ _; exact Nat.le_of_eq rfl) (hb hby at_43) (fun _ _ => ⟨rfl, rfl, (by decide : 2 + 1 ≤ _), (Nat.le_trans (Nat.add_le_add_left hbd59 14) (by decide : 14 + 10 ≤ _))⟩)
    dsimp only [Pt.U, Pt.locs, Pt.cells, Pt.slots] at X59 l59 y59 z59 st59 hQ59
    rw [l59, y59, z59] at X59
    have X59 := X59.mono (Nat.le_refl _) (Nat.add_le_add_left hbd59 14)
    obtain ⟨rfl, N59q, K59q, hE59, hC59, t59, kb59, gt59, bt59, nt59, hV59, hA59⟩ := hQ59
    have N65 := Fr.app N26 N59q
    have f66 := (f27.keep K24q)
    have ne67 : s_NAMES ≠ t59 := Nat.ne_of_lt (Nat.lt_of_lt_of_le f66.lt bt59)
    have f68 := (f29.keep K24q)
    have ne69 : s_VALUES ≠ t59 := Nat.ne_of_lt (Nat.lt_of_lt_of_le f68.lt bt59)
    have f70 := (f31.keep K24q)
    have ne71 : s_ATTRIBUTES ≠ t59 := Nat.ne_of_lt (Nat.lt_of_lt_of_le f70.lt bt59)
    have f72 := (f33.keep K24q)
    have ne73 : s_TYPES ≠ t59 := Nat.ne_of_lt (Nat.lt_of_lt_of_le f72.lt bt59)
    have f74 := (f35.keep K24q)
    have ne75 : s_LINKS ≠ t59 := Nat.ne_of_lt (Nat.lt_of_lt_of_le f74.lt bt59)
    have f76 := (f37.keep K24q)
    have ne77 : s_NAMES_name ≠ t59 := Nat.ne_of_lt (Nat.lt_of_lt_of_le f76.lt bt59)
    have f78 := (f39.keep K24q)
    have ne79 : s_ATTRIBUTES_name ≠ t59 := Nat.ne_of_lt (Nat.lt_of_lt_of_le f78.lt bt59)
    have f80 := (f41.keep K24q)
    have ne81 : s_TYPES_name ≠ t59 := Nat.ne_of_lt (Nat.lt_of_lt_of_le f80.lt bt59)
    have f82 := (f43.keep K24q)
    have ne83 : s_LINKS_name ≠ t59 := Nat.ne_of_lt (Nat.lt_of_lt_of_le f82.lt bt59)
    have f84 := (f45.keep K24q nin0)
    have ne85 : s_NAMES_name_value ≠ t59 := Nat.ne_of_lt (Nat.lt_of_lt_of_le f84.lt bt59)
    have f86 := (f47.keep K24q nin0)
    have ne87 : s_ATTRIBUTES_name_value ≠ t59 := Nat.ne_of_lt (Nat.lt_of_lt_of_le f86.lt bt59)
    have f88 := (f49.keep K24q nin0)
    have ne89 : s_TYPES_name_value ≠ t59 := Nat.ne_of_lt (Nat.lt_of_lt_of_le f88.lt bt59)
    have f90 := (f51.keep K24q nin0)
    have ne91 : s_LINKS_name_value ≠ t59 := Nat.ne_of_lt (Nat.lt_of_lt_of_le f90.lt bt59)
    have ne92 : b3 ≠ t59 := Nat.ne_of_lt (Nat.lt_of_lt_of_le f62.lt bt59)
    have ne93 : r_24 ≠ t59 := Nat.ne_of_lt (Nat.lt_of_lt_of_le hq24_1.lt bt59)
    have g94 : n0 ≤ t59 := Nat.le_trans f61 bt59
    have bz95 : h0.size ≤ t59 := Nat.le_trans (K58).1 bt59
    have CS96 : CHr Z consts_1 s.vm (T24.heap) s.vm (T59.heap) := (CHr.keep K59q (allS (P := fun x => Safe Z consts_1 s.vm _ x) (own_safeNull hZ.alike f62 f63) all0) CR57.1)
    have CR97 := CR57.trans CS96
    have K98 : Keep h0 T59.heap [] := (K58).trans K59q (allS (P := fun x => x ∈ [] ∨ h0.size ≤ x) (Or.inr bz18) all0)
    have f99 : Av Z T59.heap t59 .byte (Int32.ofNat (own_base kk).length) (own_vs (own_base kk)) (.int (0 : Int32)) := ⟨kb59, by have q_ := hA59; rw [List.map_map] at q_; exact q_⟩
    have f100 := (f60.keep K59q (allS g17 all0))
    have f102 := (Nat.le_trans f61 K59q.1)
    have hZ101 := hZ
    have hown101 := hown
    obtain ⟨_, _, ⟨T101, L101, k101, n101⟩, -, X101, Sp101, Gp101, ⟨Lc101, hQ101, l101, y101, z101, cc101⟩, st101⟩ := callSS X59 hx (y := MN8) hown (mvT hZ wo34) (mvT hZ wo35) (mvT hZ wo5) (mvT hZ wo36) (by decide) (backOfSH (s := s) (vm0 := s.vm) (W := 0) (rmExp l Z a0 hw [] b3 t59 (Int32.ofNat (own_base kk).length) (own_base kk) s_NAMES s_ATTRIBUTES s_TYPES s_LINKS cs (T59.heap) n0 f102 f100 pf_S_com_example_iskati_iskati_entity_EntityField_NAMES pf_S_com_example_iskati_iskati_entity_EntityField_ATTRIBUTES pf_S_com_example_iskati_iskati_entity_EntityField_TYPES pf_S_com_example_iskati_iskati_entity_EntityField_LINKS pf_S_java_lang_String_COMPACT_STRINGS (hcs : ¬ (cs = (0 : Int32))) hE59 hV59 hC59 f99 ((by rfl) : (Int32.ofNat (own_base kk).length) = Int32.ofNat (own_base kk).length) ((own_baser kk) : ∀ c ∈ (own_base kk), ¬ c < 0 ∧ ¬ (255 : Int32) < c) (Nat.le_trans (own_base0 kk).2.1 (show 10 ≤ 4000 from Nat.le_of_ble_eq_true rfl) : (own_base kk).length ≤ 4000)) hZ wo36 wo5 (by decide) (by decide) hEL CR97.1) (g := (mkF m 205 #[iv p0_0, iv p0_1, iv p0_2, iv p0_3, iv kk, iv md, iv c1, iv c2, rv b3, .unset, .unset] [(.ref b3)])) rfl (by rw [hml]; rfl) (argsL := [(.ref b3)]) (rest := []) (lenOf pd_9 rfl) rfl (by show 2 * 0 + _ ≤ _; exact Nat.le_of_eq rfl) (hb hby at_205) (fun _ _ => ⟨rfl, rfl, (by decide : 3 + 8 ≤ _), (by decide : 24 + 116 ≤ _)⟩)
    dsimp only [Pt.U, Pt.locs, Pt.cells, Pt.slots] at X101 l101 y101 z101 st101 hQ101 Sp101 Gp101 cc101
    rw [l101, y101, z101] at X101
    obtain ⟨X101, S101, hZ, hown⟩ := rebS (s := s) (vm0 := s.vm) (Z := Z) (own := "com/example/iskati/iskati/entity/EntityFieldNamedPinLaw") ((State.WarmedH.refl s).since 0) (Nat.zero_le _) X101 Sp101 Gp101 hZ hown
    obtain ⟨rfl, N101q, K101q⟩ := hQ101
    have N103 := Fr.app N65 N101q
    have CS104 : CHr Z consts_1 s.vm (T59.heap) T101.vm (T101.heap) := cc101
    have CR105 := CR97.trans CS104
    have K106 : Keep h0 T101.heap [] := (K98).trans K101q all0
    have f107 := (f100.keep K101q all0)
    have f108 := ((f66.keep K59q).keep K101q)
    have f109 := ((f68.keep K59q).keep K101q)
    have f110 := ((f70.keep K59q).keep K101q)
    have f111 := ((f72.keep K59q).keep K101q)
    have f112 := ((f74.keep K59q).keep K101q)
    have f113 := ((((pf_F_s_NAMES_name.ext E3).keep K24q nin0).keep K59q (ninS ne4 nin0)).keep K101q nin0)
    have f114 := ((f76.keep K59q).keep K101q)
    have f115 := ((((pf_F_s_NAMES_name_coder.ext E3).keep K24q nin0).keep K59q (ninS ne9 nin0)).keep K101q nin0)
    have f116 := ((((pf_F_s_NAMES_name_value.ext E3).keep K24q nin0).keep K59q (ninS ne9 nin0)).keep K101q nin0)
    have f117 := ((((pf_F_s_ATTRIBUTES_name.ext E3).keep K24q nin0).keep K59q (ninS ne6 nin0)).keep K101q nin0)
    have f118 := ((f78.keep K59q).keep K101q)
    have f119 := ((((pf_F_s_ATTRIBUTES_name_coder.ext E3).keep K24q nin0).keep K59q (ninS ne10 nin0)).keep K101q nin0)
    have f120 := ((((pf_F_s_ATTRIBUTES_name_value.ext E3).keep K24q nin0).keep K59q (ninS ne10 nin0)).keep K101q nin0)
    have f121 := ((((pf_F_s_TYPES_name.ext E3).keep K24q nin0).keep K59q (ninS ne7 nin0)).keep K101q nin0)
    have f122 := ((f80.keep K59q).keep K101q)
    have f123 := ((((pf_F_s_TYPES_name_coder.ext E3).keep K24q nin0).keep K59q (ninS ne11 nin0)).keep K101q nin0)
    have f124 := ((((pf_F_s_TYPES_name_value.ext E3).keep K24q nin0).keep K59q (ninS ne11 nin0)).keep K101q nin0)
    have f125 := ((((pf_F_s_LINKS_name.ext E3).keep K24q nin0).keep K59q (ninS ne8 nin0)).keep K101q nin0)
    have f126 := ((f82.keep K59q).keep K101q)
    have f127 := ((((pf_F_s_LINKS_name_coder.ext E3).keep K24q nin0).keep K59q (ninS ne12 nin0)).keep K101q nin0)
    have f128 := ((((pf_F_s_LINKS_name_value.ext E3).keep K24q nin0).keep K59q (ninS ne12 nin0)).keep K101q nin0)
    have f129 := ((((pf_A_s_VALUES.ext E3).keep K24q nin0).keep K59q (ninS ne5 nin0)).keep K101q nin0)
    have f130 := ((f84.keep K59q (ninS ne13 nin0)).keep K101q nin0)
    have f131 := ((f86.keep K59q (ninS ne14 nin0)).keep K101q nin0)
    have f132 := ((f88.keep K59q (ninS ne15 nin0)).keep K101q nin0)
    have f133 := ((f90.keep K59q (ninS ne16 nin0)).keep K101q nin0)
    have f134 := (hE59.keep K101q)
    have f135 := (hV59.keep K101q nin0)
    have f136 := (hC59.keep K101q nin0)
    have f137 := (f99.keep K101q nin0)
    have f139 := (Nat.le_trans f102 K101q.1)
    obtain ⟨_, _, ⟨T138, L138, k138, n138⟩, -, X138, ⟨Lc138, hQ138, l138, y138, z138⟩, st138⟩ := Jvm.LawKit.callS X101 hx (y := MN11) hown (mvT hZ wo53) (mvT hZ wo54) (mvT hZ wo51) (mvT hZ wo55) (by decide) (backOf (W := 0) (rmNam l Z a0 hw [] b3 t59 (Int32.ofNat (own_base kk).length) (own_base kk) s_NAMES s_VALUES s_ATTRIBUTES s_TYPES s_LINKS s_NAMES_name s_NAMES_name_value s_ATTRIBUTES_name s_ATTRIBUTES_name_value s_TYPES_name s_TYPES_name_value s_LINKS_name s_LINKS_name_value cs (T101.heap) n0 f139 f107 pf_S_com_example_iskati_iskati_entity_EntityField_NAMES f108 pf_S_com_example_iskati_iskati_entity_EntityField__VALUES f109 pf_S_com_example_iskati_iskati_entity_EntityField_ATTRIBUTES f110 pf_S_com_example_iskati_iskati_entity_EntityField_TYPES f111 pf_S_com_example_iskati_iskati_entity_EntityField_LINKS f112 f113 f114 f115 f116 f117 f118 f119 f120 f121 f122 f123 f124 f125 f126 f127 f128 f129 f130 f131 f132 f133 pf_S_java_lang_String_COMPACT_STRINGS (hcs : ¬ (cs = (0 : Int32))) f134 f135 f136 f137 ((by rfl) : (Int32.ofNat (own_base kk).length) = Int32.ofNat (own_base kk).length) ((own_baser kk) : ∀ c ∈ (own_base kk), ¬ c < 0 ∧ ¬ (255 : Int32) < c) (Nat.le_trans (own_base0 kk).2.1 (show 10 ≤ 4000 from Nat.le_of_ble_eq_true rfl) : (own_base kk).length ≤ 4000)) hZ wo55 wo51 (by decide) (by decide)) (g := (mkF m 212 #[iv p0_0, iv p0_1, iv p0_2, iv p0_3, iv kk, iv md, iv c1, iv c2, rv b3, .val (own_pk (own_base kk) s_NAMES s_ATTRIBUTES s_TYPES s_LINKS), .unset] [(.ref b3)])) rfl (by rw [hml]; rfl) (argsL := [(.ref b3)]) (rest := []) (lenOf pd_9 rfl) rfl (by show 2 * 0 + _ ≤ _; exact Nat.le_of_eq rfl) (hb hby at_212) (fun _ _ => ⟨rfl, rfl, (by decide : 11 + 1 ≤ _), (by decide : 140 + 4 ≤ _)⟩)
    dsimp only [Pt.U, Pt.locs, Pt.cells, Pt.slots] at X138 l138 y138 z138 st138 hQ138
    rw [l138, y138, z138] at X138
    obtain ⟨rfl, N138q, K138q⟩ := hQ138
    have N140 := Fr.app N103 N138q
    have CS141 : CHr Z consts_1 T101.vm (T101.heap) T101.vm (T138.heap) := (CHr.keep K138q all0 CR105.1)
    have CR142 := CR105.trans CS141
    have K143 : Keep h0 T138.heap [] := (K106).trans K138q all0
    have f144 := (Nat.le_trans (Nat.le_refl T101.heap.size) K138q.1)
    obtain ⟨fs, hr, hrun, hended, -, hW1, hW2, hW3⟩ := X138.leaveW S101 f144 (v := some (.int (1 : Int32))) (fun h => by rw [Bd.returns] at h; cases h)
    refine ⟨_, _, pre2 _ ?_, hrun, hended, _, _, rfl, ?_, hW1, hW2, hW3.mono (by decide) (by decide)⟩
    · show Steps p.tables e below (s₁.setTop (mkF m 31 #[iv p0_0, iv p0_1, iv p0_2, iv p0_3, iv kk, iv md, iv c1, iv c2, .unset, .unset, .unset] [(.int md)])) _
      refine XS.ifNo X0.here hx rfl (hb hby at_31) rfl ((if0 _ _).trans (teq hc31_1).2) ?_
      show Steps p.tables e below (s₁.setTop (mkF m 34 #[iv p0_0, iv p0_1, iv p0_2, iv p0_3, iv kk, iv md, iv c1, iv c2, .unset, .unset, .unset] [])) _
      refine st3 _ ?_
      show Steps p.tables e below (T3.setTop (mkF m 37 #[iv p0_0, iv p0_1, iv p0_2, iv p0_3, iv kk, iv md, iv c1, iv c2, .unset, .unset, .unset] [(.ref b3)])) _
      refine XS.dup X3.here hx rfl (hb hby at_37) rfl rfl ?_
      show Steps p.tables e below (T3.setTop (mkF m 38 #[iv p0_0, iv p0_1, iv p0_2, iv p0_3, iv kk, iv md, iv c1, iv c2, .unset, .unset, .unset] [(.ref b3), (.ref b3)])) _
      refine XS.iload X3.here hx rfl (hb hby at_38) rfl ?_
      show Steps p.tables e below (T3.setTop (mkF m 40 #[iv p0_0, iv p0_1, iv p0_2, iv p0_3, iv kk, iv md, iv c1, iv c2, .unset, .unset, .unset] [(.int kk), (.ref b3), (.ref b3)])) _
      refine st24 _ ?_
      show Steps p.tables e below (T24.setTop (mkF m 43 #[iv p0_0, iv p0_1, iv p0_2, iv p0_3, iv kk, iv md, iv c1, iv c2, .unset, .unset, .unset] [(.ref r_24), (.ref b3), (.ref b3)])) _
      refine st59.trans ?_
      show Steps p.tables e below (T59.setTop (mkF m 46 #[iv p0_0, iv p0_1, iv p0_2, iv p0_3, iv kk, iv md, iv c1, iv c2, .unset, .unset, .unset] [(.ref b3)])) _
      refine XS.astore X59.here hx rfl (hb hby at_46) rfl rfl (l' := #[iv p0_0, iv p0_1, iv p0_2, iv p0_3, iv kk, iv md, iv c1, iv c2, rv b3, .unset, .unset]) rfl ?_
      show Steps p.tables e below (T59.setTop (mkF m 48 #[iv p0_0, iv p0_1, iv p0_2, iv p0_3, iv kk, iv md, iv c1, iv c2, rv b3, .unset, .unset] [])) _
      refine XS.goto X59.here hx rfl (pc0 := 48) (pc' := 203) rfl (hb hby at_48) (by decide) (by decide) ?_
      show Steps p.tables e below (T59.setTop (mkF m 203 #[iv p0_0, iv p0_1, iv p0_2, iv p0_3, iv kk, iv md, iv c1, iv c2, rv b3, .unset, .unset] [])) _
      refine XS.aload X59.here hx rfl (hb hby at_203) rfl rfl ?_
      show Steps p.tables e below (T59.setTop (mkF m 205 #[iv p0_0, iv p0_1, iv p0_2, iv p0_3, iv kk, iv md, iv c1, iv c2, rv b3, .unset, .unset] [(.ref b3)])) _
      refine st101.trans ?_
      show Steps p.tables e below (T101.setTop (mkF m 208 #[iv p0_0, iv p0_1, iv p0_2, iv p0_3, iv kk, iv md, iv c1, iv c2, rv b3, .unset, .unset] [(own_pk (own_base kk) s_NAMES s_ATTRIBUTES s_TYPES s_LINKS)])) _
      refine XS.astore X101.here hx rfl (hb hby at_208) rfl (own_pkr (own_base kk) s_NAMES s_ATTRIBUTES s_TYPES s_LINKS) (l' := #[iv p0_0, iv p0_1, iv p0_2, iv p0_3, iv kk, iv md, iv c1, iv c2, rv b3, .val (own_pk (own_base kk) s_NAMES s_ATTRIBUTES s_TYPES s_LINKS), .unset]) (storeLocals_cat1 rfl (own_cat (own_pkr (own_base kk) s_NAMES s_ATTRIBUTES s_TYPES s_LINKS)) (by first | trivial | rfl)) ?_
      show Steps p.tables e below (T101.setTop (mkF m 210 #[iv p0_0, iv p0_1, iv p0_2, iv p0_3, iv kk, iv md, iv c1, iv c2, rv b3, .val (own_pk (own_base kk) s_NAMES s_ATTRIBUTES s_TYPES s_LINKS), .unset] [])) _
      refine XS.aload X101.here hx rfl (hb hby at_210) rfl rfl ?_
      show Steps p.tables e below (T101.setTop (mkF m 212 #[iv p0_0, iv p0_1, iv p0_2, iv p0_3, iv kk, iv md, iv c1, iv c2, rv b3, .val (own_pk (own_base kk) s_NAMES s_ATTRIBUTES s_TYPES s_LINKS), .unset] [(.ref b3)])) _
      refine st138 _ ?_
      show Steps p.tables e below (T138.setTop (mkF m 215 #[iv p0_0, iv p0_1, iv p0_2, iv p0_3, iv kk, iv md, iv c1, iv c2, rv b3, .val (own_pk (own_base kk) s_NAMES s_ATTRIBUTES s_TYPES s_LINKS), .unset] [(own_pk (own_base kk) s_NAMES s_ATTRIBUTES s_TYPES s_LINKS)])) _
      refine XS.astore X138.here hx rfl (hb hby at_215) rfl (own_pkr (own_base kk) s_NAMES s_ATTRIBUTES s_TYPES s_LINKS) (l' := #[iv p0_0, iv p0_1, iv p0_2, iv p0_3, iv kk, iv md, iv c1, iv c2, rv b3, .val (own_pk (own_base kk) s_NAMES s_ATTRIBUTES s_TYPES s_LINKS), .val (own_pk (own_base kk) s_NAMES s_ATTRIBUTES s_TYPES s_LINKS)]) (storeLocals_cat1 rfl (own_cat (own_pkr (own_base kk) s_NAMES s_ATTRIBUTES s_TYPES s_LINKS)) (by first | trivial | rfl)) ?_
      show Steps p.tables e below (T138.setTop (mkF m 217 #[iv p0_0, iv p0_1, iv p0_2, iv p0_3, iv kk, iv md, iv c1, iv c2, rv b3, .val (own_pk (own_base kk) s_NAMES s_ATTRIBUTES s_TYPES s_LINKS), .val (own_pk (own_base kk) s_NAMES s_ATTRIBUTES s_TYPES s_LINKS)] [])) _
      refine XS.aload X138.here hx rfl (hb hby at_217) rfl (own_pkr (own_base kk) s_NAMES s_ATTRIBUTES s_TYPES s_LINKS) ?_
      show Steps p.tables e below (T138.setTop (mkF m 219 #[iv p0_0, iv p0_1, iv p0_2, iv p0_3, iv kk, iv md, iv c1, iv c2, rv b3, .val (own_pk (own_base kk) s_NAMES s_ATTRIBUTES s_TYPES s_LINKS), .val (own_pk (own_base kk) s_NAMES s_ATTRIBUTES s_TYPES s_LINKS)] [(own_pk (own_base kk) s_NAMES s_ATTRIBUTES s_TYPES s_LINKS)])) _
      refine XS.aload X138.here hx rfl (hb hby at_219) rfl (own_pkr (own_base kk) s_NAMES s_ATTRIBUTES s_TYPES s_LINKS) ?_
      show Steps p.tables e below (T138.setTop (mkF m 221 #[iv p0_0, iv p0_1, iv p0_2, iv p0_3, iv kk, iv md, iv c1, iv c2, rv b3, .val (own_pk (own_base kk) s_NAMES s_ATTRIBUTES s_TYPES s_LINKS), .val (own_pk (own_base kk) s_NAMES s_ATTRIBUTES s_TYPES s_LINKS)] [(own_pk (own_base kk) s_NAMES s_ATTRIBUTES s_TYPES s_LINKS), (own_pk (own_base kk) s_NAMES s_ATTRIBUTES s_TYPES s_LINKS)])) _
      refine Jvm.RoadKit.acmp (g := (mkF m 221 #[iv p0_0, iv p0_1, iv p0_2, iv p0_3, iv kk, iv md, iv c1, iv c2, rv b3, .val (own_pk (own_base kk) s_NAMES s_ATTRIBUTES s_TYPES s_LINKS), .val (own_pk (own_base kk) s_NAMES s_ATTRIBUTES s_TYPES s_LINKS)] [(own_pk (own_base kk) s_NAMES s_ATTRIBUTES s_TYPES s_LINKS), (own_pk (own_base kk) s_NAMES s_ATTRIBUTES s_TYPES s_LINKS)])) X138 hx rfl (own_pkr (own_base kk) s_NAMES s_ATTRIBUTES s_TYPES s_LINKS) (own_pkr (own_base kk) s_NAMES s_ATTRIBUTES s_TYPES s_LINKS) (pc0 := 221) (pc' := 224) (same := true) rfl (hb hby at_221) rfl (decide_eq_true rfl) (by decide) (by decide) ?_
      show Steps p.tables e below (T138.setTop (mkF m 224 #[iv p0_0, iv p0_1, iv p0_2, iv p0_3, iv kk, iv md, iv c1, iv c2, rv b3, .val (own_pk (own_base kk) s_NAMES s_ATTRIBUTES s_TYPES s_LINKS), .val (own_pk (own_base kk) s_NAMES s_ATTRIBUTES s_TYPES s_LINKS)] [])) _
      refine XS.iconst X138.here hx rfl (hb hby at_224) ?_
      show Steps p.tables e below (T138.setTop (mkF m 225 #[iv p0_0, iv p0_1, iv p0_2, iv p0_3, iv kk, iv md, iv c1, iv c2, rv b3, .val (own_pk (own_base kk) s_NAMES s_ATTRIBUTES s_TYPES s_LINKS), .val (own_pk (own_base kk) s_NAMES s_ATTRIBUTES s_TYPES s_LINKS)] [(.int (1 : Int32))])) _
      refine XS.goto X138.here hx rfl (pc0 := 225) (pc' := 229) rfl (hb hby at_225) (by decide) (by decide) ?_
      show Steps p.tables e below (T138.setTop (mkF m 229 #[iv p0_0, iv p0_1, iv p0_2, iv p0_3, iv kk, iv md, iv c1, iv c2, rv b3, .val (own_pk (own_base kk) s_NAMES s_ATTRIBUTES s_TYPES s_LINKS), .val (own_pk (own_base kk) s_NAMES s_ATTRIBUTES s_TYPES s_LINKS)] [(.int (1 : Int32))])) _
      exact retN X138 hx (t := .boolean) Bd.returns (by simp) (hb hby at_229) hr
    · show Q_rm0 Z _ _ _ _ _ _ _ _ _ _ _ _ _ _ _ _ _ _ h0 n0 _ T138.heap _
      exact ⟨rfl, N140, (K143)⟩
  · skip
    have pre146 : ∀ t, Steps p.tables e below (s₁.setTop (mkF m 54 #[iv p0_0, iv p0_1, iv p0_2, iv p0_3, iv kk, iv md, iv c1, iv c2, .unset, .unset, .unset] [(.int (1 : Int32)), (.int md)])) t → Steps p.tables e below (s₁.setTop (entryFrame m #[(.int p0_0), (.int p0_1), (.int p0_2), (.int p0_3)] maxLocals)) t := by
      intro t_ k_
      refine pre2 _ ?_
      show Steps p.tables e below (s₁.setTop (mkF m 31 #[iv p0_0, iv p0_1, iv p0_2, iv p0_3, iv kk, iv md, iv c1, iv c2, .unset, .unset, .unset] [(.int md)])) _
      refine XS.ifYes X0.here hx rfl (pc0 := 31) (pc' := 51) rfl (hb hby at_31) rfl ((if0 _ _).trans (feq hc31_1).2) (by decide) (by decide) ?_
      show Steps p.tables e below (s₁.setTop (mkF m 51 #[iv p0_0, iv p0_1, iv p0_2, iv p0_3, iv kk, iv md, iv c1, iv c2, .unset, .unset, .unset] [])) _
      refine XS.iload X0.here hx rfl (hb hby at_51) rfl ?_
      show Steps p.tables e below (s₁.setTop (mkF m 53 #[iv p0_0, iv p0_1, iv p0_2, iv p0_3, iv kk, iv md, iv c1, iv c2, .unset, .unset, .unset] [(.int md)])) _
      refine XS.iconst X0.here hx rfl (hb hby at_53) ?_
      exact k_
    by_cases hc54_145 : md = (1 : Int32)
    · skip
      obtain ⟨_, _, ⟨T147, L147, k147, n147⟩, -, X147, ⟨Lc147, hQ147, l147, y147, z147⟩, st147⟩ := Jvm.LawKit.callS X0 hx (y := MN1) hown (mvT hZ wo3) (mvT hZ wo4) (mvT hZ wo5) (mvT hZ wo6) (by decide) (backOf (W := 0) (rm1 l Z a0 hw [] kk h0 n0 Z0 ) hZ wo6 wo5 (by decide) (by decide)) (g := (mkF m 59 #[iv p0_0, iv p0_1, iv p0_2, iv p0_3, iv kk, iv md, iv c1, iv c2, .unset, .unset, .unset] [(.int kk)])) rfl (by rw [hml]; rfl) (argsL := [(.int kk)]) (rest := []) (lenOf pd_6 rfl) rfl (by show 2 * 0 + _ ≤ _; exact Nat.le_of_eq rfl) (hb hby at_59) (fun _ _ => ⟨rfl, e0, (by decide : 0 + 1 ≤ _), (by decide : 0 + 10 ≤ _)⟩)
      dsimp only [Pt.U, Pt.locs, Pt.cells, Pt.slots] at X147 l147 y147 z147 st147 hQ147
      rw [l147, y147, z147] at X147
      obtain ⟨r_147, rfl, N147q, K147q, hq147_0, hq147_1⟩ := hQ147
      have N148 := Fr.app N0 N147q
      have ne149 : s_NAMES ≠ r_147 := Nat.ne_of_lt (Nat.lt_of_lt_of_le pf_E_s_NAMES.lt hq147_0)
      have ne150 : s_VALUES ≠ r_147 := Nat.ne_of_lt (Nat.lt_of_lt_of_le pf_E_s_VALUES.lt hq147_0)
      have ne151 : s_ATTRIBUTES ≠ r_147 := Nat.ne_of_lt (Nat.lt_of_lt_of_le pf_E_s_ATTRIBUTES.lt hq147_0)
      have ne152 : s_TYPES ≠ r_147 := Nat.ne_of_lt (Nat.lt_of_lt_of_le pf_E_s_TYPES.lt hq147_0)
      have ne153 : s_LINKS ≠ r_147 := Nat.ne_of_lt (Nat.lt_of_lt_of_le pf_E_s_LINKS.lt hq147_0)
      have ne154 : s_NAMES_name ≠ r_147 := Nat.ne_of_lt (Nat.lt_of_lt_of_le pf_E_s_NAMES_name.lt hq147_0)
      have ne155 : s_ATTRIBUTES_name ≠ r_147 := Nat.ne_of_lt (Nat.lt_of_lt_of_le pf_E_s_ATTRIBUTES_name.lt hq147_0)
      have ne156 : s_TYPES_name ≠ r_147 := Nat.ne_of_lt (Nat.lt_of_lt_of_le pf_E_s_TYPES_name.lt hq147_0)
      have ne157 : s_LINKS_name ≠ r_147 := Nat.ne_of_lt (Nat.lt_of_lt_of_le pf_E_s_LINKS_name.lt hq147_0)
      have ne158 : s_NAMES_name_value ≠ r_147 := Nat.ne_of_lt (Nat.lt_of_lt_of_le pf_A_s_NAMES_name_value.lt hq147_0)
      have ne159 : s_ATTRIBUTES_name_value ≠ r_147 := Nat.ne_of_lt (Nat.lt_of_lt_of_le pf_A_s_ATTRIBUTES_name_value.lt hq147_0)
      have ne160 : s_TYPES_name_value ≠ r_147 := Nat.ne_of_lt (Nat.lt_of_lt_of_le pf_A_s_TYPES_name_value.lt hq147_0)
      have ne161 : s_LINKS_name_value ≠ r_147 := Nat.ne_of_lt (Nat.lt_of_lt_of_le pf_A_s_LINKS_name_value.lt hq147_0)
      have g162 : n0 ≤ r_147 := Nat.le_trans Z0 hq147_0
      have bz163 : h0.size ≤ r_147 := Nat.le_trans (Keep.refl h0 []).1 hq147_0
      have CS164 : CHr Z consts_1 s.vm h0 s.vm (T147.heap) := (CHr.keep K147q all0 CR0.1)
      have CR165 := CR0.trans CS164
      have K166 : Keep h0 T147.heap [] := (Keep.refl h0 []).trans K147q all0
      obtain ⟨kk167, cl167, Ar167, qq167, Sz167, Nn167, Hs167, Gf167⟩ := id hq147_1
      obtain ⟨jj, h_jj⟩ : ∃ z : Int32, z = ((p0_1 &&& (2147483647 : Int32)) % (Int32.ofNat (own_base kk).length)) := ⟨_, rfl⟩
      obtain ⟨kk168, cl168, Ar168, qq168, Sz168, Nn168, Hs168, Gf168⟩ := id hq147_1
      have hin169 : ¬ (jj < 0 ∨ cl168.slots.size ≤ (jj).toNatClampNeg) := inb_of Sz168 ⟨by rw [h_jj]; exact (own_idx _ _).1, by rw [h_jj]; exact (own_idx _ _).2.1⟩
      obtain ⟨T170, h170, X170, e170, W170, st170⟩ := stC X147 hx hZ rfl Ar168 (j := jj) hin169 (g := (mkF m 76 #[iv p0_0, iv p0_1, iv p0_2, iv p0_3, iv kk, iv md, iv c1, iv c2, .unset, rv r_147, .unset] [(.int c1), (.int jj), (.ref r_147)])) rfl rfl (hb hby at_76)
      have CS171 : CHr Z consts_1 s.vm (T147.heap) s.vm h170 := (CHr.wr W170 (own_safeAv hZ.alike hq147_1 (by decide)) CR165.1)
      have CR172 := CR165.trans CS171
      have K173 : Keep h0 h170 [] := (K166).wr W170 (Or.inr bz163)
      have f174 : Av Z h170 r_147 .char (Int32.ofNat (own_base kk).length) (own_cv ((own_base kk).set (jj).toNatClampNeg c1)) (.int (0 : Int32)) := by rw [← own_cvset, ← own_narc hrc1]; exact ⟨_, Arv.set Ar168 qq168 Sz168 Nn168 Hs168 Gf168 (by first | rfl | exact fits_nar_char _) W170 _ rfl (by rw [own_cvlen, h_jj]; exact (own_idx _ _).2.2)⟩
      have N175 := Fr.snoc X170 N148 g162
      obtain ⟨T176, h176, X176, e176, E176, A176, D176, -, st176⟩ := newO X170 hx hZ hown wo0 wo1 wo2 e170 (g := (mkF m 77 #[iv p0_0, iv p0_1, iv p0_2, iv p0_3, iv kk, iv md, iv c1, iv c2, .unset, rv r_147, .unset] [])) rfl (hb hby at_77) (by decide) (by decide)
      obtain ⟨b176, gg176⟩ : ∃ z, z = h170.size := ⟨_, rfl⟩
      rw [← gg176] at A176 D176 st176
      have f177 := ((pf_E_s_NAMES.keep K147q).wr W170)
      have ne178 : s_NAMES ≠ b176 := Nat.ne_of_lt (Nat.lt_of_lt_of_le f177.lt (Nat.le_of_eq gg176.symm))
      have f179 := ((pf_E_s_VALUES.keep K147q).wr W170)
      have ne180 : s_VALUES ≠ b176 := Nat.ne_of_lt (Nat.lt_of_lt_of_le f179.lt (Nat.le_of_eq gg176.symm))
      have f181 := ((pf_E_s_ATTRIBUTES.keep K147q).wr W170)
      have ne182 : s_ATTRIBUTES ≠ b176 := Nat.ne_of_lt (Nat.lt_of_lt_of_le f181.lt (Nat.le_of_eq gg176.symm))
      have f183 := ((pf_E_s_TYPES.keep K147q).wr W170)
      have ne184 : s_TYPES ≠ b176 := Nat.ne_of_lt (Nat.lt_of_lt_of_le f183.lt (Nat.le_of_eq gg176.symm))
      have f185 := ((pf_E_s_LINKS.keep K147q).wr W170)
      have ne186 : s_LINKS ≠ b176 := Nat.ne_of_lt (Nat.lt_of_lt_of_le f185.lt (Nat.le_of_eq gg176.symm))
      have f187 := ((pf_E_s_NAMES_name.keep K147q).wr W170)
      have ne188 : s_NAMES_name ≠ b176 := Nat.ne_of_lt (Nat.lt_of_lt_of_le f187.lt (Nat.le_of_eq gg176.symm))
      have f189 := ((pf_E_s_ATTRIBUTES_name.keep K147q).wr W170)
      have ne190 : s_ATTRIBUTES_name ≠ b176 := Nat.ne_of_lt (Nat.lt_of_lt_of_le f189.lt (Nat.le_of_eq gg176.symm))
      have f191 := ((pf_E_s_TYPES_name.keep K147q).wr W170)
      have ne192 : s_TYPES_name ≠ b176 := Nat.ne_of_lt (Nat.lt_of_lt_of_le f191.lt (Nat.le_of_eq gg176.symm))
      have f193 := ((pf_E_s_LINKS_name.keep K147q).wr W170)
      have ne194 : s_LINKS_name ≠ b176 := Nat.ne_of_lt (Nat.lt_of_lt_of_le f193.lt (Nat.le_of_eq gg176.symm))
      have f195 := ((pf_A_s_NAMES_name_value.keep K147q nin0).other W170 ne158)
      have ne196 : s_NAMES_name_value ≠ b176 := Nat.ne_of_lt (Nat.lt_of_lt_of_le f195.lt (Nat.le_of_eq gg176.symm))
      have f197 := ((pf_A_s_ATTRIBUTES_name_value.keep K147q nin0).other W170 ne159)
      have ne198 : s_ATTRIBUTES_name_value ≠ b176 := Nat.ne_of_lt (Nat.lt_of_lt_of_le f197.lt (Nat.le_of_eq gg176.symm))
      have f199 := ((pf_A_s_TYPES_name_value.keep K147q nin0).other W170 ne160)
      have ne200 : s_TYPES_name_value ≠ b176 := Nat.ne_of_lt (Nat.lt_of_lt_of_le f199.lt (Nat.le_of_eq gg176.symm))
      have f201 := ((pf_A_s_LINKS_name_value.keep K147q nin0).other W170 ne161)
      have ne202 : s_LINKS_name_value ≠ b176 := Nat.ne_of_lt (Nat.lt_of_lt_of_le f201.lt (Nat.le_of_eq gg176.symm))
      have ne203 : r_147 ≠ b176 := Nat.ne_of_lt (Nat.lt_of_lt_of_le f174.lt (Nat.le_of_eq gg176.symm))
      have f205 := (Nat.le_trans (Nat.le_trans Z0 K147q.1) (Keep.of_wr W170).1)
      have g204 : n0 ≤ b176 := Nat.le_trans f205 (Nat.le_of_eq gg176.symm)
      have bz206 : h0.size ≤ b176 := Nat.le_trans (K173).1 (Nat.le_of_eq gg176.symm)
      have CS207 : CHr Z consts_1 s.vm h170 s.vm h176 := (CHr.ext E176 CR172.1)
      have CR208 := CR172.trans CS207
      have K209 : Keep h0 h176 [] := (K173).ext E176
      have f210 : Fld Z h176 b176 "java/lang/String" "coder" "B" (.int (0 : Int32)) := D176 (Or.inr wo31) (ty := .byte) (by decide)
      have f211 : Fld Z h176 b176 "java/lang/String" "value" "[B" .null := D176 (Or.inr wo33) (ty := (.array .byte)) (by decide)
      have f212 := (f174.ext E176)
      obtain ⟨kc213, Vc213⟩ := id f212
      have hws213 : ∀ d ∈ StrChars.Road.words, d.before a0 Z = true := fun d hd => hw d ((by decide +kernel : ∀ d ∈ StrChars.Road.words, d ∈ tables_1) d hd)
      have hbd213 : (((own_base kk).set (jj).toNatClampNeg c1) : List Int32).length ≤ 10 := (by rw [List.length_set]; exact (own_base0 kk).2.1)
      have f214 := (((pf_O.keep K147q all0).wr W170 g162).ext E176)
      have f215 := (Nat.le_trans f205 E176.1)
      obtain ⟨_, _, ⟨T213, L213, k213, n213⟩, -, X213, ⟨Lc213, hQ213, l213, y213, z213⟩, st213⟩ := X176.specialBack hx (y := MN2) rfl hown (mvT hZ wo8) (mvT hZ wo9) (mvT hZ wo10) (by decide) (StrChars.Road.backV (W := 1) hZ hws213 (kI := 4) wo1 (cs := (((own_base kk).set (jj).toNatClampNeg c1) : List Int32)) (bs := (((own_base kk).set (jj).toNatClampNeg c1) : List Int32).map (fun c => c.toInt8.toInt32)) (n := (((own_base kk).set (jj).toNatClampNeg c1) : List Int32).length) g204 f215 A176 f211 f210 Vc213 (pf_S_java_lang_String_COMPACT_STRINGS.ext f214.2) hcs rfl (by rw [List.length_set]) (by rw [List.length_set]; exact (own_base0 kk).1) (Nat.le_trans hbd213 (by decide)) (own_setr _ (own_baser kk) hrc1) rfl (by decide) (by decide)) (g := (mkF m 83 #[iv p0_0, iv p0_1, iv p0_2, iv p0_3, iv kk, iv md, iv c1, iv c2, .unset, rv r_147, .unset] [(.ref r_147), (.ref b176), (.ref b176)])) rfl (by rw [hml]; rfl) (Steps.refl _) (a := b176) (argsL := [(.ref r_147)]) (rest := [(.ref b176)]) (lenOf pd_13 rfl) rfl (by show 2 * 0 + _ ≤ _; exact Nat.le_of_eq rfl) (hb hby at_83) (fun _ _ => ⟨rfl, e176, (by decide : 2 + 1 ≤ _), (Nat.le_trans (Nat.add_le_add_left hbd213 14) (by decide : 14 + 10 ≤ _))⟩)
      dsimp only [Pt.U, Pt.locs, Pt.cells, Pt.slots] at X213 l213 y213 z213 st213 hQ213
      rw [l213, y213, z213] at X213
      have X213 := X213.mono (Nat.le_refl _) (Nat.add_le_add_left hbd213 14)
      obtain ⟨rfl, N213q, K213q, hE213, hC213, t213, kb213, gt213, bt213, nt213, hV213, hA213⟩ := hQ213
      have N216 := Fr.app N175 N213q
      have f217 := (f177.ext E176)
      have ne218 : s_NAMES ≠ t213 := Nat.ne_of_lt (Nat.lt_of_lt_of_le f217.lt bt213)
      have f219 := (f179.ext E176)
      have ne220 : s_VALUES ≠ t213 := Nat.ne_of_lt (Nat.lt_of_lt_of_le f219.lt bt213)
      have f221 := (f181.ext E176)
      have ne222 : s_ATTRIBUTES ≠ t213 := Nat.ne_of_lt (Nat.lt_of_lt_of_le f221.lt bt213)
      have f223 := (f183.ext E176)
      have ne224 : s_TYPES ≠ t213 := Nat.ne_of_lt (Nat.lt_of_lt_of_le f223.lt bt213)
      have f225 := (f185.ext E176)
      have ne226 : s_LINKS ≠ t213 := Nat.ne_of_lt (Nat.lt_of_lt_of_le f225.lt bt213)
      have f227 := (f187.ext E176)
      have ne228 : s_NAMES_name ≠ t213 := Nat.ne_of_lt (Nat.lt_of_lt_of_le f227.lt bt213)
      have f229 := (f189.ext E176)
      have ne230 : s_ATTRIBUTES_name ≠ t213 := Nat.ne_of_lt (Nat.lt_of_lt_of_le f229.lt bt213)
      have f231 := (f191.ext E176)
      have ne232 : s_TYPES_name ≠ t213 := Nat.ne_of_lt (Nat.lt_of_lt_of_le f231.lt bt213)
      have f233 := (f193.ext E176)
      have ne234 : s_LINKS_name ≠ t213 := Nat.ne_of_lt (Nat.lt_of_lt_of_le f233.lt bt213)
      have f235 := (f195.ext E176)
      have ne236 : s_NAMES_name_value ≠ t213 := Nat.ne_of_lt (Nat.lt_of_lt_of_le f235.lt bt213)
      have f237 := (f197.ext E176)
      have ne238 : s_ATTRIBUTES_name_value ≠ t213 := Nat.ne_of_lt (Nat.lt_of_lt_of_le f237.lt bt213)
      have f239 := (f199.ext E176)
      have ne240 : s_TYPES_name_value ≠ t213 := Nat.ne_of_lt (Nat.lt_of_lt_of_le f239.lt bt213)
      have f241 := (f201.ext E176)
      have ne242 : s_LINKS_name_value ≠ t213 := Nat.ne_of_lt (Nat.lt_of_lt_of_le f241.lt bt213)
      have ne243 : r_147 ≠ t213 := Nat.ne_of_lt (Nat.lt_of_lt_of_le f212.lt bt213)
      have ne244 : b176 ≠ t213 := Nat.ne_of_lt (Nat.lt_of_lt_of_le A176.lt bt213)
      have g245 : n0 ≤ t213 := Nat.le_trans f215 bt213
      have bz246 : h0.size ≤ t213 := Nat.le_trans (K209).1 bt213
      have CS247 : CHr Z consts_1 s.vm h176 s.vm (T213.heap) := (CHr.keep K213q (allS (P := fun x => Safe Z consts_1 s.vm _ x) (own_safeNull hZ.alike A176 f211) all0) CR208.1)
      have CR248 := CR208.trans CS247
      have K249 : Keep h0 T213.heap [] := (K209).trans K213q (allS (P := fun x => x ∈ [] ∨ h0.size ≤ x) (Or.inr bz206) all0)
      have f250 : Av Z T213.heap t213 .byte (Int32.ofNat (own_base kk).length) (own_vs ((own_base kk).set (jj).toNatClampNeg c1)) (.int (0 : Int32)) := ⟨kb213, by have q_ := hA213; rw [List.map_map] at q_; exact q_⟩
      have f251 := (f214.keep K213q (allS g204 all0))
      have f253 := (Nat.le_trans f215 K213q.1)
      have hZ252 := hZ
      have hown252 := hown
      obtain ⟨_, _, ⟨T252, L252, k252, n252⟩, -, X252, Sp252, Gp252, ⟨Lc252, hQ252, l252, y252, z252, cc252⟩, st252⟩ := callSS X213 hx (y := MN8) hown (mvT hZ wo34) (mvT hZ wo35) (mvT hZ wo5) (mvT hZ wo36) (by decide) (backOfSH (s := s) (vm0 := s.vm) (W := 0) (rmExp l Z a0 hw [] b176 t213 (Int32.ofNat (own_base kk).length) ((own_base kk).set (jj).toNatClampNeg c1) s_NAMES s_ATTRIBUTES s_TYPES s_LINKS cs (T213.heap) n0 f253 f251 pf_S_com_example_iskati_iskati_entity_EntityField_NAMES pf_S_com_example_iskati_iskati_entity_EntityField_ATTRIBUTES pf_S_com_example_iskati_iskati_entity_EntityField_TYPES pf_S_com_example_iskati_iskati_entity_EntityField_LINKS pf_S_java_lang_String_COMPACT_STRINGS (hcs : ¬ (cs = (0 : Int32))) hE213 hV213 hC213 f250 ((by rw [List.length_set]) : (Int32.ofNat (own_base kk).length) = Int32.ofNat ((own_base kk).set (jj).toNatClampNeg c1).length) ((own_setr _ (own_baser kk) hrc1) : ∀ c ∈ ((own_base kk).set (jj).toNatClampNeg c1), ¬ c < 0 ∧ ¬ (255 : Int32) < c) (Nat.le_trans (by rw [List.length_set]; exact (own_base0 kk).2.1) (show 10 ≤ 4000 from Nat.le_of_ble_eq_true rfl) : ((own_base kk).set (jj).toNatClampNeg c1).length ≤ 4000)) hZ wo36 wo5 (by decide) (by decide) hEL CR248.1) (g := (mkF m 205 #[iv p0_0, iv p0_1, iv p0_2, iv p0_3, iv kk, iv md, iv c1, iv c2, rv b176, rv r_147, .unset] [(.ref b176)])) rfl (by rw [hml]; rfl) (argsL := [(.ref b176)]) (rest := []) (lenOf pd_9 rfl) rfl (by show 2 * 0 + _ ≤ _; exact Nat.le_of_eq rfl) (hb hby at_205) (fun _ _ => ⟨rfl, rfl, (by decide : 3 + 8 ≤ _), (by decide : 24 + 116 ≤ _)⟩)
      dsimp only [Pt.U, Pt.locs, Pt.cells, Pt.slots] at X252 l252 y252 z252 st252 hQ252 Sp252 Gp252 cc252
      rw [l252, y252, z252] at X252
      obtain ⟨X252, S252, hZ, hown⟩ := rebS (s := s) (vm0 := s.vm) (Z := Z) (own := "com/example/iskati/iskati/entity/EntityFieldNamedPinLaw") ((State.WarmedH.refl s).since 0) (Nat.zero_le _) X252 Sp252 Gp252 hZ hown
      obtain ⟨rfl, N252q, K252q⟩ := hQ252
      have N254 := Fr.app N216 N252q
      have CS255 : CHr Z consts_1 s.vm (T213.heap) T252.vm (T252.heap) := cc252
      have CR256 := CR248.trans CS255
      have K257 : Keep h0 T252.heap [] := (K249).trans K252q all0
      have f258 := (f251.keep K252q all0)
      have f259 := ((f217.keep K213q).keep K252q)
      have f260 := ((f219.keep K213q).keep K252q)
      have f261 := ((f221.keep K213q).keep K252q)
      have f262 := ((f223.keep K213q).keep K252q)
      have f263 := ((f225.keep K213q).keep K252q)
      have f264 := (((((pf_F_s_NAMES_name.keep K147q nin0).other W170 (Or.inl ne149)).ext E176).keep K213q (ninS ne178 nin0)).keep K252q nin0)
      have f265 := ((f227.keep K213q).keep K252q)
      have f266 := (((((pf_F_s_NAMES_name_coder.keep K147q nin0).other W170 (Or.inl ne154)).ext E176).keep K213q (ninS ne188 nin0)).keep K252q nin0)
      have f267 := (((((pf_F_s_NAMES_name_value.keep K147q nin0).other W170 (Or.inl ne154)).ext E176).keep K213q (ninS ne188 nin0)).keep K252q nin0)
      have f268 := (((((pf_F_s_ATTRIBUTES_name.keep K147q nin0).other W170 (Or.inl ne151)).ext E176).keep K213q (ninS ne182 nin0)).keep K252q nin0)
      have f269 := ((f229.keep K213q).keep K252q)
      have f270 := (((((pf_F_s_ATTRIBUTES_name_coder.keep K147q nin0).other W170 (Or.inl ne155)).ext E176).keep K213q (ninS ne190 nin0)).keep K252q nin0)
      have f271 := (((((pf_F_s_ATTRIBUTES_name_value.keep K147q nin0).other W170 (Or.inl ne155)).ext E176).keep K213q (ninS ne190 nin0)).keep K252q nin0)
      have f272 := (((((pf_F_s_TYPES_name.keep K147q nin0).other W170 (Or.inl ne152)).ext E176).keep K213q (ninS ne184 nin0)).keep K252q nin0)
      have f273 := ((f231.keep K213q).keep K252q)
      have f274 := (((((pf_F_s_TYPES_name_coder.keep K147q nin0).other W170 (Or.inl ne156)).ext E176).keep K213q (ninS ne192 nin0)).keep K252q nin0)
      have f275 := (((((pf_F_s_TYPES_name_value.keep K147q nin0).other W170 (Or.inl ne156)).ext E176).keep K213q (ninS ne192 nin0)).keep K252q nin0)
      have f276 := (((((pf_F_s_LINKS_name.keep K147q nin0).other W170 (Or.inl ne153)).ext E176).keep K213q (ninS ne186 nin0)).keep K252q nin0)
      have f277 := ((f233.keep K213q).keep K252q)
      have f278 := (((((pf_F_s_LINKS_name_coder.keep K147q nin0).other W170 (Or.inl ne157)).ext E176).keep K213q (ninS ne194 nin0)).keep K252q nin0)
      have f279 := (((((pf_F_s_LINKS_name_value.keep K147q nin0).other W170 (Or.inl ne157)).ext E176).keep K213q (ninS ne194 nin0)).keep K252q nin0)
      have f280 := (((((pf_A_s_VALUES.keep K147q nin0).other W170 ne150).ext E176).keep K213q (ninS ne180 nin0)).keep K252q nin0)
      have f281 := ((f235.keep K213q (ninS ne196 nin0)).keep K252q nin0)
      have f282 := ((f237.keep K213q (ninS ne198 nin0)).keep K252q nin0)
      have f283 := ((f239.keep K213q (ninS ne200 nin0)).keep K252q nin0)
      have f284 := ((f241.keep K213q (ninS ne202 nin0)).keep K252q nin0)
      have f285 := (hE213.keep K252q)
      have f286 := (hV213.keep K252q nin0)
      have f287 := (hC213.keep K252q nin0)
      have f288 := (f250.keep K252q nin0)
      have f290 := (Nat.le_trans f253 K252q.1)
      obtain ⟨_, _, ⟨T289, L289, k289, n289⟩, -, X289, ⟨Lc289, hQ289, l289, y289, z289⟩, st289⟩ := Jvm.LawKit.callS X252 hx (y := MN11) hown (mvT hZ wo53) (mvT hZ wo54) (mvT hZ wo51) (mvT hZ wo55) (by decide) (backOf (W := 0) (rmNam l Z a0 hw [] b176 t213 (Int32.ofNat (own_base kk).length) ((own_base kk).set (jj).toNatClampNeg c1) s_NAMES s_VALUES s_ATTRIBUTES s_TYPES s_LINKS s_NAMES_name s_NAMES_name_value s_ATTRIBUTES_name s_ATTRIBUTES_name_value s_TYPES_name s_TYPES_name_value s_LINKS_name s_LINKS_name_value cs (T252.heap) n0 f290 f258 pf_S_com_example_iskati_iskati_entity_EntityField_NAMES f259 pf_S_com_example_iskati_iskati_entity_EntityField__VALUES f260 pf_S_com_example_iskati_iskati_entity_EntityField_ATTRIBUTES f261 pf_S_com_example_iskati_iskati_entity_EntityField_TYPES f262 pf_S_com_example_iskati_iskati_entity_EntityField_LINKS f263 f264 f265 f266 f267 f268 f269 f270 f271 f272 f273 f274 f275 f276 f277 f278 f279 f280 f281 f282 f283 f284 pf_S_java_lang_String_COMPACT_STRINGS (hcs : ¬ (cs = (0 : Int32))) f285 f286 f287 f288 ((by rw [List.length_set]) : (Int32.ofNat (own_base kk).length) = Int32.ofNat ((own_base kk).set (jj).toNatClampNeg c1).length) ((own_setr _ (own_baser kk) hrc1) : ∀ c ∈ ((own_base kk).set (jj).toNatClampNeg c1), ¬ c < 0 ∧ ¬ (255 : Int32) < c) (Nat.le_trans (by rw [List.length_set]; exact (own_base0 kk).2.1) (show 10 ≤ 4000 from Nat.le_of_ble_eq_true rfl) : ((own_base kk).set (jj).toNatClampNeg c1).length ≤ 4000)) hZ wo55 wo51 (by decide) (by decide)) (g := (mkF m 212 #[iv p0_0, iv p0_1, iv p0_2, iv p0_3, iv kk, iv md, iv c1, iv c2, rv b176, .val (own_pk ((own_base kk).set (jj).toNatClampNeg c1) s_NAMES s_ATTRIBUTES s_TYPES s_LINKS), .unset] [(.ref b176)])) rfl (by rw [hml]; rfl) (argsL := [(.ref b176)]) (rest := []) (lenOf pd_9 rfl) rfl (by show 2 * 0 + _ ≤ _; exact Nat.le_of_eq rfl) (hb hby at_212) (fun _ _ => ⟨rfl, rfl, (by decide : 11 + 1 ≤ _), (by decide : 140 + 4 ≤ _)⟩)
      dsimp only [Pt.U, Pt.locs, Pt.cells, Pt.slots] at X289 l289 y289 z289 st289 hQ289
      rw [l289, y289, z289] at X289
      obtain ⟨rfl, N289q, K289q⟩ := hQ289
      have N291 := Fr.app N254 N289q
      have CS292 : CHr Z consts_1 T252.vm (T252.heap) T252.vm (T289.heap) := (CHr.keep K289q all0 CR256.1)
      have CR293 := CR256.trans CS292
      have K294 : Keep h0 T289.heap [] := (K257).trans K289q all0
      have f295 := (Nat.le_trans (Nat.le_refl T252.heap.size) K289q.1)
      obtain ⟨fs, hr, hrun, hended, -, hW1, hW2, hW3⟩ := X289.leaveW S252 f295 (v := some (.int (1 : Int32))) (fun h => by rw [Bd.returns] at h; cases h)
      refine ⟨_, _, pre146 _ ?_, hrun, hended, _, _, rfl, ?_, hW1, hW2, hW3.mono (by decide) (by decide)⟩
      · show Steps p.tables e below (s₁.setTop (mkF m 54 #[iv p0_0, iv p0_1, iv p0_2, iv p0_3, iv kk, iv md, iv c1, iv c2, .unset, .unset, .unset] [(.int (1 : Int32)), (.int md)])) _
        refine XS.icmpNo X0.here hx rfl (hb hby at_54) rfl (teq hc54_145).2 ?_
        show Steps p.tables e below (s₁.setTop (mkF m 57 #[iv p0_0, iv p0_1, iv p0_2, iv p0_3, iv kk, iv md, iv c1, iv c2, .unset, .unset, .unset] [])) _
        refine XS.iload X0.here hx rfl (hb hby at_57) rfl ?_
        show Steps p.tables e below (s₁.setTop (mkF m 59 #[iv p0_0, iv p0_1, iv p0_2, iv p0_3, iv kk, iv md, iv c1, iv c2, .unset, .unset, .unset] [(.int kk)])) _
        refine st147 _ ?_
        show Steps p.tables e below (T147.setTop (mkF m 62 #[iv p0_0, iv p0_1, iv p0_2, iv p0_3, iv kk, iv md, iv c1, iv c2, .unset, .unset, .unset] [(.ref r_147)])) _
        refine XS.astore X147.here hx rfl (hb hby at_62) rfl rfl (l' := #[iv p0_0, iv p0_1, iv p0_2, iv p0_3, iv kk, iv md, iv c1, iv c2, .unset, rv r_147, .unset]) rfl ?_
        show Steps p.tables e below (T147.setTop (mkF m 64 #[iv p0_0, iv p0_1, iv p0_2, iv p0_3, iv kk, iv md, iv c1, iv c2, .unset, rv r_147, .unset] [])) _
        refine XS.aload X147.here hx rfl (hb hby at_64) rfl rfl ?_
        show Steps p.tables e below (T147.setTop (mkF m 66 #[iv p0_0, iv p0_1, iv p0_2, iv p0_3, iv kk, iv md, iv c1, iv c2, .unset, rv r_147, .unset] [(.ref r_147)])) _
        refine XS.iloadN X147.here hx rfl (hb hby at_66) rfl ?_
        show Steps p.tables e below (T147.setTop (mkF m 67 #[iv p0_0, iv p0_1, iv p0_2, iv p0_3, iv kk, iv md, iv c1, iv c2, .unset, rv r_147, .unset] [(.int p0_1), (.ref r_147)])) _
        refine X147.ldcInt hx hown252 (mvT hZ252 wo102) (g := (mkF m 67 #[iv p0_0, iv p0_1, iv p0_2, iv p0_3, iv kk, iv md, iv c1, iv c2, .unset, rv r_147, .unset] [(.int p0_1), (.ref r_147)])) rfl (hb hby at_67) _ ?_
        show Steps p.tables e below (T147.setTop (mkF m 69 #[iv p0_0, iv p0_1, iv p0_2, iv p0_3, iv kk, iv md, iv c1, iv c2, .unset, rv r_147, .unset] [(.int (2147483647 : Int32)), (.int p0_1), (.ref r_147)])) _
        refine XS.iand X147.here hx rfl (hb hby at_69) rfl ?_
        show Steps p.tables e below (T147.setTop (mkF m 70 #[iv p0_0, iv p0_1, iv p0_2, iv p0_3, iv kk, iv md, iv c1, iv c2, .unset, rv r_147, .unset] [(.int (p0_1 &&& (2147483647 : Int32))), (.ref r_147)])) _
        refine XS.aload X147.here hx rfl (hb hby at_70) rfl rfl ?_
        show Steps p.tables e below (T147.setTop (mkF m 72 #[iv p0_0, iv p0_1, iv p0_2, iv p0_3, iv kk, iv md, iv c1, iv c2, .unset, rv r_147, .unset] [(.ref r_147), (.int (p0_1 &&& (2147483647 : Int32))), (.ref r_147)])) _
        refine X147.arraylength hx (Ar167.1) (State.isArrayOf_alike hZ252.alike Ar167.2.1) (g := (mkF m 72 #[iv p0_0, iv p0_1, iv p0_2, iv p0_3, iv kk, iv md, iv c1, iv c2, .unset, rv r_147, .unset] [(.ref r_147), (.int (p0_1 &&& (2147483647 : Int32))), (.ref r_147)])) rfl rfl (hb hby at_72) _ ?_
        rw [len_of Sz167 Nn167]
        show Steps p.tables e below (T147.setTop (mkF m 73 #[iv p0_0, iv p0_1, iv p0_2, iv p0_3, iv kk, iv md, iv c1, iv c2, .unset, rv r_147, .unset] [(.int (Int32.ofNat (own_base kk).length)), (.int (p0_1 &&& (2147483647 : Int32))), (.ref r_147)])) _
        refine iremM (g := (mkF m 73 #[iv p0_0, iv p0_1, iv p0_2, iv p0_3, iv kk, iv md, iv c1, iv c2, .unset, rv r_147, .unset] [(.int (Int32.ofNat (own_base kk).length)), (.int (p0_1 &&& (2147483647 : Int32))), (.ref r_147)])) X147 hx rfl (hb hby at_73) rfl (own_nzb kk) ?_
        show Steps p.tables e below (T147.setTop (mkF m 74 #[iv p0_0, iv p0_1, iv p0_2, iv p0_3, iv kk, iv md, iv c1, iv c2, .unset, rv r_147, .unset] [(.int ((p0_1 &&& (2147483647 : Int32)) % (Int32.ofNat (own_base kk).length))), (.ref r_147)])) _
        refine XS.iload X147.here hx rfl (hb hby at_74) rfl ?_
        show Steps p.tables e below (T147.setTop (mkF m 76 #[iv p0_0, iv p0_1, iv p0_2, iv p0_3, iv kk, iv md, iv c1, iv c2, .unset, rv r_147, .unset] [(.int c1), (.int ((p0_1 &&& (2147483647 : Int32)) % (Int32.ofNat (own_base kk).length))), (.ref r_147)])) _
        rw [← h_jj]
        show Steps p.tables e below (T147.setTop (mkF m 76 #[iv p0_0, iv p0_1, iv p0_2, iv p0_3, iv kk, iv md, iv c1, iv c2, .unset, rv r_147, .unset] [(.int c1), (.int jj), (.ref r_147)])) _
        show Steps p.tables e below (T147.setTop (mkF m 76 #[iv p0_0, iv p0_1, iv p0_2, iv p0_3, iv kk, iv md, iv c1, iv c2, .unset, rv r_147, .unset] [(.int c1), (.int jj), (.ref r_147)])) _
        refine st170 _ ?_
        show Steps p.tables e below (T170.setTop (mkF m 77 #[iv p0_0, iv p0_1, iv p0_2, iv p0_3, iv kk, iv md, iv c1, iv c2, .unset, rv r_147, .unset] [])) _
        refine st176 _ ?_
        show Steps p.tables e below (T176.setTop (mkF m 80 #[iv p0_0, iv p0_1, iv p0_2, iv p0_3, iv kk, iv md, iv c1, iv c2, .unset, rv r_147, .unset] [(.ref b176)])) _
        refine XS.dup X176.here hx rfl (hb hby at_80) rfl rfl ?_
        show Steps p.tables e below (T176.setTop (mkF m 81 #[iv p0_0, iv p0_1, iv p0_2, iv p0_3, iv kk, iv md, iv c1, iv c2, .unset, rv r_147, .unset] [(.ref b176), (.ref b176)])) _
        refine XS.aload X176.here hx rfl (hb hby at_81) rfl rfl ?_
        show Steps p.tables e below (T176.setTop (mkF m 83 #[iv p0_0, iv p0_1, iv p0_2, iv p0_3, iv kk, iv md, iv c1, iv c2, .unset, rv r_147, .unset] [(.ref r_147), (.ref b176), (.ref b176)])) _
        refine st213.trans ?_
        show Steps p.tables e below (T213.setTop (mkF m 86 #[iv p0_0, iv p0_1, iv p0_2, iv p0_3, iv kk, iv md, iv c1, iv c2, .unset, rv r_147, .unset] [(.ref b176)])) _
        refine XS.astore X213.here hx rfl (hb hby at_86) rfl rfl (l' := #[iv p0_0, iv p0_1, iv p0_2, iv p0_3, iv kk, iv md, iv c1, iv c2, rv b176, rv r_147, .unset]) rfl ?_
        show Steps p.tables e below (T213.setTop (mkF m 88 #[iv p0_0, iv p0_1, iv p0_2, iv p0_3, iv kk, iv md, iv c1, iv c2, rv b176, rv r_147, .unset] [])) _
        refine XS.goto X213.here hx rfl (pc0 := 88) (pc' := 203) rfl (hb hby at_88) (by decide) (by decide) ?_
        show Steps p.tables e below (T213.setTop (mkF m 203 #[iv p0_0, iv p0_1, iv p0_2, iv p0_3, iv kk, iv md, iv c1, iv c2, rv b176, rv r_147, .unset] [])) _
        refine XS.aload X213.here hx rfl (hb hby at_203) rfl rfl ?_
        show Steps p.tables e below (T213.setTop (mkF m 205 #[iv p0_0, iv p0_1, iv p0_2, iv p0_3, iv kk, iv md, iv c1, iv c2, rv b176, rv r_147, .unset] [(.ref b176)])) _
        refine st252.trans ?_
        show Steps p.tables e below (T252.setTop (mkF m 208 #[iv p0_0, iv p0_1, iv p0_2, iv p0_3, iv kk, iv md, iv c1, iv c2, rv b176, rv r_147, .unset] [(own_pk ((own_base kk).set (jj).toNatClampNeg c1) s_NAMES s_ATTRIBUTES s_TYPES s_LINKS)])) _
        refine XS.astore X252.here hx rfl (hb hby at_208) rfl (own_pkr ((own_base kk).set (jj).toNatClampNeg c1) s_NAMES s_ATTRIBUTES s_TYPES s_LINKS) (l' := #[iv p0_0, iv p0_1, iv p0_2, iv p0_3, iv kk, iv md, iv c1, iv c2, rv b176, .val (own_pk ((own_base kk).set (jj).toNatClampNeg c1) s_NAMES s_ATTRIBUTES s_TYPES s_LINKS), .unset]) (storeLocals_cat1 rfl (own_cat (own_pkr ((own_base kk).set (jj).toNatClampNeg c1) s_NAMES s_ATTRIBUTES s_TYPES s_LINKS)) (by first | trivial | rfl)) ?_
        show Steps p.tables e below (T252.setTop (mkF m 210 #[iv p0_0, iv p0_1, iv p0_2, iv p0_3, iv kk, iv md, iv c1, iv c2, rv b176, .val (own_pk ((own_base kk).set (jj).toNatClampNeg c1) s_NAMES s_ATTRIBUTES s_TYPES s_LINKS), .unset] [])) _
        refine XS.aload X252.here hx rfl (hb hby at_210) rfl rfl ?_
        show Steps p.tables e below (T252.setTop (mkF m 212 #[iv p0_0, iv p0_1, iv p0_2, iv p0_3, iv kk, iv md, iv c1, iv c2, rv b176, .val (own_pk ((own_base kk).set (jj).toNatClampNeg c1) s_NAMES s_ATTRIBUTES s_TYPES s_LINKS), .unset] [(.ref b176)])) _
        refine st289 _ ?_
        show Steps p.tables e below (T289.setTop (mkF m 215 #[iv p0_0, iv p0_1, iv p0_2, iv p0_3, iv kk, iv md, iv c1, iv c2, rv b176, .val (own_pk ((own_base kk).set (jj).toNatClampNeg c1) s_NAMES s_ATTRIBUTES s_TYPES s_LINKS), .unset] [(own_pk ((own_base kk).set (jj).toNatClampNeg c1) s_NAMES s_ATTRIBUTES s_TYPES s_LINKS)])) _
        refine XS.astore X289.here hx rfl (hb hby at_215) rfl (own_pkr ((own_base kk).set (jj).toNatClampNeg c1) s_NAMES s_ATTRIBUTES s_TYPES s_LINKS) (l' := #[iv p0_0, iv p0_1, iv p0_2, iv p0_3, iv kk, iv md, iv c1, iv c2, rv b176, .val (own_pk ((own_base kk).set (jj).toNatClampNeg c1) s_NAMES s_ATTRIBUTES s_TYPES s_LINKS), .val (own_pk ((own_base kk).set (jj).toNatClampNeg c1) s_NAMES s_ATTRIBUTES s_TYPES s_LINKS)]) (storeLocals_cat1 rfl (own_cat (own_pkr ((own_base kk).set (jj).toNatClampNeg c1) s_NAMES s_ATTRIBUTES s_TYPES s_LINKS)) (by first | trivial | rfl)) ?_
        show Steps p.tables e below (T289.setTop (mkF m 217 #[iv p0_0, iv p0_1, iv p0_2, iv p0_3, iv kk, iv md, iv c1, iv c2, rv b176, .val (own_pk ((own_base kk).set (jj).toNatClampNeg c1) s_NAMES s_ATTRIBUTES s_TYPES s_LINKS), .val (own_pk ((own_base kk).set (jj).toNatClampNeg c1) s_NAMES s_ATTRIBUTES s_TYPES s_LINKS)] [])) _
        refine XS.aload X289.here hx rfl (hb hby at_217) rfl (own_pkr ((own_base kk).set (jj).toNatClampNeg c1) s_NAMES s_ATTRIBUTES s_TYPES s_LINKS) ?_
        show Steps p.tables e below (T289.setTop (mkF m 219 #[iv p0_0, iv p0_1, iv p0_2, iv p0_3, iv kk, iv md, iv c1, iv c2, rv b176, .val (own_pk ((own_base kk).set (jj).toNatClampNeg c1) s_NAMES s_ATTRIBUTES s_TYPES s_LINKS), .val (own_pk ((own_base kk).set (jj).toNatClampNeg c1) s_NAMES s_ATTRIBUTES s_TYPES s_LINKS)] [(own_pk ((own_base kk).set (jj).toNatClampNeg c1) s_NAMES s_ATTRIBUTES s_TYPES s_LINKS)])) _
        refine XS.aload X289.here hx rfl (hb hby at_219) rfl (own_pkr ((own_base kk).set (jj).toNatClampNeg c1) s_NAMES s_ATTRIBUTES s_TYPES s_LINKS) ?_
        show Steps p.tables e below (T289.setTop (mkF m 221 #[iv p0_0, iv p0_1, iv p0_2, iv p0_3, iv kk, iv md, iv c1, iv c2, rv b176, .val (own_pk ((own_base kk).set (jj).toNatClampNeg c1) s_NAMES s_ATTRIBUTES s_TYPES s_LINKS), .val (own_pk ((own_base kk).set (jj).toNatClampNeg c1) s_NAMES s_ATTRIBUTES s_TYPES s_LINKS)] [(own_pk ((own_base kk).set (jj).toNatClampNeg c1) s_NAMES s_ATTRIBUTES s_TYPES s_LINKS), (own_pk ((own_base kk).set (jj).toNatClampNeg c1) s_NAMES s_ATTRIBUTES s_TYPES s_LINKS)])) _
        refine Jvm.RoadKit.acmp (g := (mkF m 221 #[iv p0_0, iv p0_1, iv p0_2, iv p0_3, iv kk, iv md, iv c1, iv c2, rv b176, .val (own_pk ((own_base kk).set (jj).toNatClampNeg c1) s_NAMES s_ATTRIBUTES s_TYPES s_LINKS), .val (own_pk ((own_base kk).set (jj).toNatClampNeg c1) s_NAMES s_ATTRIBUTES s_TYPES s_LINKS)] [(own_pk ((own_base kk).set (jj).toNatClampNeg c1) s_NAMES s_ATTRIBUTES s_TYPES s_LINKS), (own_pk ((own_base kk).set (jj).toNatClampNeg c1) s_NAMES s_ATTRIBUTES s_TYPES s_LINKS)])) X289 hx rfl (own_pkr ((own_base kk).set (jj).toNatClampNeg c1) s_NAMES s_ATTRIBUTES s_TYPES s_LINKS) (own_pkr ((own_base kk).set (jj).toNatClampNeg c1) s_NAMES s_ATTRIBUTES s_TYPES s_LINKS) (pc0 := 221) (pc' := 224) (same := true) rfl (hb hby at_221) rfl (decide_eq_true rfl) (by decide) (by decide) ?_
        show Steps p.tables e below (T289.setTop (mkF m 224 #[iv p0_0, iv p0_1, iv p0_2, iv p0_3, iv kk, iv md, iv c1, iv c2, rv b176, .val (own_pk ((own_base kk).set (jj).toNatClampNeg c1) s_NAMES s_ATTRIBUTES s_TYPES s_LINKS), .val (own_pk ((own_base kk).set (jj).toNatClampNeg c1) s_NAMES s_ATTRIBUTES s_TYPES s_LINKS)] [])) _
        refine XS.iconst X289.here hx rfl (hb hby at_224) ?_
        show Steps p.tables e below (T289.setTop (mkF m 225 #[iv p0_0, iv p0_1, iv p0_2, iv p0_3, iv kk, iv md, iv c1, iv c2, rv b176, .val (own_pk ((own_base kk).set (jj).toNatClampNeg c1) s_NAMES s_ATTRIBUTES s_TYPES s_LINKS), .val (own_pk ((own_base kk).set (jj).toNatClampNeg c1) s_NAMES s_ATTRIBUTES s_TYPES s_LINKS)] [(.int (1 : Int32))])) _
        refine XS.goto X289.here hx rfl (pc0 := 225) (pc' := 229) rfl (hb hby at_225) (by decide) (by decide) ?_
        show Steps p.tables e below (T289.setTop (mkF m 229 #[iv p0_0, iv p0_1, iv p0_2, iv p0_3, iv kk, iv md, iv c1, iv c2, rv b176, .val (own_pk ((own_base kk).set (jj).toNatClampNeg c1) s_NAMES s_ATTRIBUTES s_TYPES s_LINKS), .val (own_pk ((own_base kk).set (jj).toNatClampNeg c1) s_NAMES s_ATTRIBUTES s_TYPES s_LINKS)] [(.int (1 : Int32))])) _
        exact retN X289 hx (t := .boolean) Bd.returns (by simp) (hb hby at_229) hr
      · show Q_rm0 Z _ _ _ _ _ _ _ _ _ _ _ _ _ _ _ _ _ _ h0 n0 _ T289.heap _
        exact ⟨rfl, N291, (K294)⟩
    · skip
      have pre297 : ∀ t, Steps p.tables e below (s₁.setTop (mkF m 94 #[iv p0_0, iv p0_1, iv p0_2, iv p0_3, iv kk, iv md, iv c1, iv c2, .unset, .unset, .unset] [(.int (2 : Int32)), (.int md)])) t → Steps p.tables e below (s₁.setTop (entryFrame m #[(.int p0_0), (.int p0_1), (.int p0_2), (.int p0_3)] maxLocals)) t := by
        intro t_ k_
        refine pre146 _ ?_
        show Steps p.tables e below (s₁.setTop (mkF m 54 #[iv p0_0, iv p0_1, iv p0_2, iv p0_3, iv kk, iv md, iv c1, iv c2, .unset, .unset, .unset] [(.int (1 : Int32)), (.int md)])) _
        refine XS.icmpYes X0.here hx rfl (pc0 := 54) (pc' := 91) rfl (hb hby at_54) rfl (feq hc54_145).2 (by decide) (by decide) ?_
        show Steps p.tables e below (s₁.setTop (mkF m 91 #[iv p0_0, iv p0_1, iv p0_2, iv p0_3, iv kk, iv md, iv c1, iv c2, .unset, .unset, .unset] [])) _
        refine XS.iload X0.here hx rfl (hb hby at_91) rfl ?_
        show Steps p.tables e below (s₁.setTop (mkF m 93 #[iv p0_0, iv p0_1, iv p0_2, iv p0_3, iv kk, iv md, iv c1, iv c2, .unset, .unset, .unset] [(.int md)])) _
        refine XS.iconst X0.here hx rfl (hb hby at_93) ?_
        exact k_
      by_cases hc94_296 : md = (2 : Int32)
      · skip
        obtain ⟨T298, h298, X298, e298, E298, A298, D298, -, st298⟩ := newO X0 hx hZ hown wo0 wo1 wo2 e0 (g := (mkF m 97 #[iv p0_0, iv p0_1, iv p0_2, iv p0_3, iv kk, iv md, iv c1, iv c2, .unset, .unset, .unset] [])) rfl (hb hby at_97) (by decide) (by decide)
        obtain ⟨b298, gg298⟩ : ∃ z, z = h0.size := ⟨_, rfl⟩
        rw [← gg298] at A298 D298 st298
        have ne299 : s_NAMES ≠ b298 := Nat.ne_of_lt (Nat.lt_of_lt_of_le pf_E_s_NAMES.lt (Nat.le_of_eq gg298.symm))
        have ne300 : s_VALUES ≠ b298 := Nat.ne_of_lt (Nat.lt_of_lt_of_le pf_E_s_VALUES.lt (Nat.le_of_eq gg298.symm))
        have ne301 : s_ATTRIBUTES ≠ b298 := Nat.ne_of_lt (Nat.lt_of_lt_of_le pf_E_s_ATTRIBUTES.lt (Nat.le_of_eq gg298.symm))
        have ne302 : s_TYPES ≠ b298 := Nat.ne_of_lt (Nat.lt_of_lt_of_le pf_E_s_TYPES.lt (Nat.le_of_eq gg298.symm))
        have ne303 : s_LINKS ≠ b298 := Nat.ne_of_lt (Nat.lt_of_lt_of_le pf_E_s_LINKS.lt (Nat.le_of_eq gg298.symm))
        have ne304 : s_NAMES_name ≠ b298 := Nat.ne_of_lt (Nat.lt_of_lt_of_le pf_E_s_NAMES_name.lt (Nat.le_of_eq gg298.symm))
        have ne305 : s_ATTRIBUTES_name ≠ b298 := Nat.ne_of_lt (Nat.lt_of_lt_of_le pf_E_s_ATTRIBUTES_name.lt (Nat.le_of_eq gg298.symm))
        have ne306 : s_TYPES_name ≠ b298 := Nat.ne_of_lt (Nat.lt_of_lt_of_le pf_E_s_TYPES_name.lt (Nat.le_of_eq gg298.symm))
        have ne307 : s_LINKS_name ≠ b298 := Nat.ne_of_lt (Nat.lt_of_lt_of_le pf_E_s_LINKS_name.lt (Nat.le_of_eq gg298.symm))
        have ne308 : s_NAMES_name_value ≠ b298 := Nat.ne_of_lt (Nat.lt_of_lt_of_le pf_A_s_NAMES_name_value.lt (Nat.le_of_eq gg298.symm))
        have ne309 : s_ATTRIBUTES_name_value ≠ b298 := Nat.ne_of_lt (Nat.lt_of_lt_of_le pf_A_s_ATTRIBUTES_name_value.lt (Nat.le_of_eq gg298.symm))
        have ne310 : s_TYPES_name_value ≠ b298 := Nat.ne_of_lt (Nat.lt_of_lt_of_le pf_A_s_TYPES_name_value.lt (Nat.le_of_eq gg298.symm))
        have ne311 : s_LINKS_name_value ≠ b298 := Nat.ne_of_lt (Nat.lt_of_lt_of_le pf_A_s_LINKS_name_value.lt (Nat.le_of_eq gg298.symm))
        have g312 : n0 ≤ b298 := Nat.le_trans Z0 (Nat.le_of_eq gg298.symm)
        have bz313 : h0.size ≤ b298 := Nat.le_trans (Keep.refl h0 []).1 (Nat.le_of_eq gg298.symm)
        have CS314 : CHr Z consts_1 s.vm h0 s.vm h298 := (CHr.ext E298 CR0.1)
        have CR315 := CR0.trans CS314
        have K316 : Keep h0 h298 [] := (Keep.refl h0 []).ext E298
        have f317 : Fld Z h298 b298 "java/lang/String" "coder" "B" (.int (0 : Int32)) := D298 (Or.inr wo31) (ty := .byte) (by decide)
        have f318 : Fld Z h298 b298 "java/lang/String" "value" "[B" .null := D298 (Or.inr wo33) (ty := (.array .byte)) (by decide)
        have f320 := (Nat.le_trans Z0 E298.1)
        obtain ⟨_, _, ⟨T319, L319, k319, n319⟩, -, X319, ⟨Lc319, hQ319, l319, y319, z319⟩, st319⟩ := Jvm.LawKit.callS X298 hx (y := MN18) hown (mvT hZ wo98) (mvT hZ wo99) (mvT hZ wo5) (mvT hZ wo100) (by decide) (backOf (W := 2) (rm18 l Z a0 hw [] kk h298 n0 f320 ) hZ wo100 wo5 (by decide) (by decide)) (g := (mkF m 103 #[iv p0_0, iv p0_1, iv p0_2, iv p0_3, iv kk, iv md, iv c1, iv c2, .unset, .unset, .unset] [(.int kk), (.ref b298), (.ref b298)])) rfl (by rw [hml]; rfl) (argsL := [(.int kk)]) (rest := [(.ref b298), (.ref b298)]) (lenOf pd_6 rfl) rfl (by show 2 * 0 + _ ≤ _; exact Nat.le_of_eq rfl) (hb hby at_103) (fun _ _ => ⟨rfl, e298, (by decide : 1 + 1 ≤ _), (by decide : 4 + 9 ≤ _)⟩)
        dsimp only [Pt.U, Pt.locs, Pt.cells, Pt.slots] at X319 l319 y319 z319 st319 hQ319
        rw [l319, y319, z319] at X319
        obtain ⟨r_319, rfl, N319q, K319q, hq319_0, hq319_1⟩ := hQ319
        have N321 := Fr.app N0 N319q
        have f322 := (pf_E_s_NAMES.ext E298)
        have ne323 : s_NAMES ≠ r_319 := Nat.ne_of_lt (Nat.lt_of_lt_of_le f322.lt hq319_0)
        have f324 := (pf_E_s_VALUES.ext E298)
        have ne325 : s_VALUES ≠ r_319 := Nat.ne_of_lt (Nat.lt_of_lt_of_le f324.lt hq319_0)
        have f326 := (pf_E_s_ATTRIBUTES.ext E298)
        have ne327 : s_ATTRIBUTES ≠ r_319 := Nat.ne_of_lt (Nat.lt_of_lt_of_le f326.lt hq319_0)
        have f328 := (pf_E_s_TYPES.ext E298)
        have ne329 : s_TYPES ≠ r_319 := Nat.ne_of_lt (Nat.lt_of_lt_of_le f328.lt hq319_0)
        have f330 := (pf_E_s_LINKS.ext E298)
        have ne331 : s_LINKS ≠ r_319 := Nat.ne_of_lt (Nat.lt_of_lt_of_le f330.lt hq319_0)
        have f332 := (pf_E_s_NAMES_name.ext E298)
        have ne333 : s_NAMES_name ≠ r_319 := Nat.ne_of_lt (Nat.lt_of_lt_of_le f332.lt hq319_0)
        have f334 := (pf_E_s_ATTRIBUTES_name.ext E298)
        have ne335 : s_ATTRIBUTES_name ≠ r_319 := Nat.ne_of_lt (Nat.lt_of_lt_of_le f334.lt hq319_0)
        have f336 := (pf_E_s_TYPES_name.ext E298)
        have ne337 : s_TYPES_name ≠ r_319 := Nat.ne_of_lt (Nat.lt_of_lt_of_le f336.lt hq319_0)
        have f338 := (pf_E_s_LINKS_name.ext E298)
        have ne339 : s_LINKS_name ≠ r_319 := Nat.ne_of_lt (Nat.lt_of_lt_of_le f338.lt hq319_0)
        have f340 := (pf_A_s_NAMES_name_value.ext E298)
        have ne341 : s_NAMES_name_value ≠ r_319 := Nat.ne_of_lt (Nat.lt_of_lt_of_le f340.lt hq319_0)
        have f342 := (pf_A_s_ATTRIBUTES_name_value.ext E298)
        have ne343 : s_ATTRIBUTES_name_value ≠ r_319 := Nat.ne_of_lt (Nat.lt_of_lt_of_le f342.lt hq319_0)
        have f344 := (pf_A_s_TYPES_name_value.ext E298)
        have ne345 : s_TYPES_name_value ≠ r_319 := Nat.ne_of_lt (Nat.lt_of_lt_of_le f344.lt hq319_0)
        have f346 := (pf_A_s_LINKS_name_value.ext E298)
        have ne347 : s_LINKS_name_value ≠ r_319 := Nat.ne_of_lt (Nat.lt_of_lt_of_le f346.lt hq319_0)
        have ne348 : b298 ≠ r_319 := Nat.ne_of_lt (Nat.lt_of_lt_of_le A298.lt hq319_0)
        have g349 : n0 ≤ r_319 := Nat.le_trans f320 hq319_0
        have bz350 : h0.size ≤ r_319 := Nat.le_trans (K316).1 hq319_0
        have CS351 : CHr Z consts_1 s.vm h298 s.vm (T319.heap) := (CHr.keep K319q all0 CR315.1)
        have CR352 := CR315.trans CS351
        have K353 : Keep h0 T319.heap [] := (K316).trans K319q all0
        obtain ⟨kc354, Vc354⟩ := id hq319_1
        have hws354 : ∀ d ∈ StrChars.Road.words, d.before a0 Z = true := fun d hd => hw d ((by decide +kernel : ∀ d ∈ StrChars.Road.words, d ∈ tables_1) d hd)
        have hbd354 : ((own_short kk) : List Int32).length ≤ 9 := (own_short0 kk).2
        have f355 := ((pf_O.ext E298).keep K319q all0)
        have f356 := (Nat.le_trans f320 K319q.1)
        have f357 := (A298.keep K319q)
        have f358 := (f318.keep K319q nin0)
        have f359 := (f317.keep K319q nin0)
        obtain ⟨_, _, ⟨T354, L354, k354, n354⟩, -, X354, ⟨Lc354, hQ354, l354, y354, z354⟩, st354⟩ := X319.specialBack hx (y := MN2) rfl hown (mvT hZ wo8) (mvT hZ wo9) (mvT hZ wo10) (by decide) (StrChars.Road.backV (W := 1) hZ hws354 (kI := 4) wo1 (cs := ((own_short kk) : List Int32)) (bs := ((own_short kk) : List Int32).map (fun c => c.toInt8.toInt32)) (n := ((own_short kk) : List Int32).length) g312 f356 f357 f358 f359 Vc354 (pf_S_java_lang_String_COMPACT_STRINGS.ext f355.2) hcs rfl rfl (own_short0 kk).1 (Nat.le_trans hbd354 (by decide)) (own_shortr kk) rfl (by decide) (by decide)) (g := (mkF m 106 #[iv p0_0, iv p0_1, iv p0_2, iv p0_3, iv kk, iv md, iv c1, iv c2, .unset, .unset, .unset] [(.ref r_319), (.ref b298), (.ref b298)])) rfl (by rw [hml]; rfl) (Steps.refl _) (a := b298) (argsL := [(.ref r_319)]) (rest := [(.ref b298)]) (lenOf pd_13 rfl) rfl (by show 2 * 0 + _ ≤ _; exact Nat.le_of_eq rfl) (hb hby at_106) (fun _ _ => ⟨rfl, rfl, (by decide : 2 + 1 ≤ _), (Nat.le_trans (Nat.add_le_add_left hbd354 13) (by decide : 13 + 9 ≤ _))⟩)
        dsimp only [Pt.U, Pt.locs, Pt.cells, Pt.slots] at X354 l354 y354 z354 st354 hQ354
        rw [l354, y354, z354] at X354
        have X354 := X354.mono (Nat.le_refl _) (Nat.add_le_add_left hbd354 13)
        obtain ⟨rfl, N354q, K354q, hE354, hC354, t354, kb354, gt354, bt354, nt354, hV354, hA354⟩ := hQ354
        have N360 := Fr.app N321 N354q
        have f361 := (f322.keep K319q)
        have ne362 : s_NAMES ≠ t354 := Nat.ne_of_lt (Nat.lt_of_lt_of_le f361.lt bt354)
        have f363 := (f324.keep K319q)
        have ne364 : s_VALUES ≠ t354 := Nat.ne_of_lt (Nat.lt_of_lt_of_le f363.lt bt354)
        have f365 := (f326.keep K319q)
        have ne366 : s_ATTRIBUTES ≠ t354 := Nat.ne_of_lt (Nat.lt_of_lt_of_le f365.lt bt354)
        have f367 := (f328.keep K319q)
        have ne368 : s_TYPES ≠ t354 := Nat.ne_of_lt (Nat.lt_of_lt_of_le f367.lt bt354)
        have f369 := (f330.keep K319q)
        have ne370 : s_LINKS ≠ t354 := Nat.ne_of_lt (Nat.lt_of_lt_of_le f369.lt bt354)
        have f371 := (f332.keep K319q)
        have ne372 : s_NAMES_name ≠ t354 := Nat.ne_of_lt (Nat.lt_of_lt_of_le f371.lt bt354)
        have f373 := (f334.keep K319q)
        have ne374 : s_ATTRIBUTES_name ≠ t354 := Nat.ne_of_lt (Nat.lt_of_lt_of_le f373.lt bt354)
        have f375 := (f336.keep K319q)
        have ne376 : s_TYPES_name ≠ t354 := Nat.ne_of_lt (Nat.lt_of_lt_of_le f375.lt bt354)
        have f377 := (f338.keep K319q)
        have ne378 : s_LINKS_name ≠ t354 := Nat.ne_of_lt (Nat.lt_of_lt_of_le f377.lt bt354)
        have f379 := (f340.keep K319q nin0)
        have ne380 : s_NAMES_name_value ≠ t354 := Nat.ne_of_lt (Nat.lt_of_lt_of_le f379.lt bt354)
        have f381 := (f342.keep K319q nin0)
        have ne382 : s_ATTRIBUTES_name_value ≠ t354 := Nat.ne_of_lt (Nat.lt_of_lt_of_le f381.lt bt354)
        have f383 := (f344.keep K319q nin0)
        have ne384 : s_TYPES_name_value ≠ t354 := Nat.ne_of_lt (Nat.lt_of_lt_of_le f383.lt bt354)
        have f385 := (f346.keep K319q nin0)
        have ne386 : s_LINKS_name_value ≠ t354 := Nat.ne_of_lt (Nat.lt_of_lt_of_le f385.lt bt354)
        have ne387 : b298 ≠ t354 := Nat.ne_of_lt (Nat.lt_of_lt_of_le f357.lt bt354)
        have ne388 : r_319 ≠ t354 := Nat.ne_of_lt (Nat.lt_of_lt_of_le hq319_1.lt bt354)
        have g389 : n0 ≤ t354 := Nat.le_trans f356 bt354
        have bz390 : h0.size ≤ t354 := Nat.le_trans (K353).1 bt354
        have CS391 : CHr Z consts_1 s.vm (T319.heap) s.vm (T354.heap) := (CHr.keep K354q (allS (P := fun x => Safe Z consts_1 s.vm _ x) (own_safeNull hZ.alike f357 f358) all0) CR352.1)
        have CR392 := CR352.trans CS391
        have K393 : Keep h0 T354.heap [] := (K353).trans K354q (allS (P := fun x => x ∈ [] ∨ h0.size ≤ x) (Or.inr bz313) all0)
        have f394 : Av Z T354.heap t354 .byte (Int32.ofNat (own_short kk).length) (own_vs (own_short kk)) (.int (0 : Int32)) := ⟨kb354, by have q_ := hA354; rw [List.map_map] at q_; exact q_⟩
        have f395 := (f355.keep K354q (allS g312 all0))
        have f397 := (Nat.le_trans f356 K354q.1)
        have hZ396 := hZ
        have hown396 := hown
        obtain ⟨_, _, ⟨T396, L396, k396, n396⟩, -, X396, Sp396, Gp396, ⟨Lc396, hQ396, l396, y396, z396, cc396⟩, st396⟩ := callSS X354 hx (y := MN8) hown (mvT hZ wo34) (mvT hZ wo35) (mvT hZ wo5) (mvT hZ wo36) (by decide) (backOfSH (s := s) (vm0 := s.vm) (W := 0) (rmExp l Z a0 hw [] b298 t354 (Int32.ofNat (own_short kk).length) (own_short kk) s_NAMES s_ATTRIBUTES s_TYPES s_LINKS cs (T354.heap) n0 f397 f395 pf_S_com_example_iskati_iskati_entity_EntityField_NAMES pf_S_com_example_iskati_iskati_entity_EntityField_ATTRIBUTES pf_S_com_example_iskati_iskati_entity_EntityField_TYPES pf_S_com_example_iskati_iskati_entity_EntityField_LINKS pf_S_java_lang_String_COMPACT_STRINGS (hcs : ¬ (cs = (0 : Int32))) hE354 hV354 hC354 f394 ((by rfl) : (Int32.ofNat (own_short kk).length) = Int32.ofNat (own_short kk).length) ((own_shortr kk) : ∀ c ∈ (own_short kk), ¬ c < 0 ∧ ¬ (255 : Int32) < c) (Nat.le_trans (own_short0 kk).2 (show 9 ≤ 4000 from Nat.le_of_ble_eq_true rfl) : (own_short kk).length ≤ 4000)) hZ wo36 wo5 (by decide) (by decide) hEL CR392.1) (g := (mkF m 205 #[iv p0_0, iv p0_1, iv p0_2, iv p0_3, iv kk, iv md, iv c1, iv c2, rv b298, .unset, .unset] [(.ref b298)])) rfl (by rw [hml]; rfl) (argsL := [(.ref b298)]) (rest := []) (lenOf pd_9 rfl) rfl (by show 2 * 0 + _ ≤ _; exact Nat.le_of_eq rfl) (hb hby at_205) (fun _ _ => ⟨rfl, rfl, (by decide : 3 + 8 ≤ _), (by decide : 22 + 116 ≤ _)⟩)
        dsimp only [Pt.U, Pt.locs, Pt.cells, Pt.slots] at X396 l396 y396 z396 st396 hQ396 Sp396 Gp396 cc396
        rw [l396, y396, z396] at X396
        obtain ⟨X396, S396, hZ, hown⟩ := rebS (s := s) (vm0 := s.vm) (Z := Z) (own := "com/example/iskati/iskati/entity/EntityFieldNamedPinLaw") ((State.WarmedH.refl s).since 0) (Nat.zero_le _) X396 Sp396 Gp396 hZ hown
        obtain ⟨rfl, N396q, K396q⟩ := hQ396
        have N398 := Fr.app N360 N396q
        have CS399 : CHr Z consts_1 s.vm (T354.heap) T396.vm (T396.heap) := cc396
        have CR400 := CR392.trans CS399
        have K401 : Keep h0 T396.heap [] := (K393).trans K396q all0
        have f402 := (f395.keep K396q all0)
        have f403 := ((f361.keep K354q).keep K396q)
        have f404 := ((f363.keep K354q).keep K396q)
        have f405 := ((f365.keep K354q).keep K396q)
        have f406 := ((f367.keep K354q).keep K396q)
        have f407 := ((f369.keep K354q).keep K396q)
        have f408 := ((((pf_F_s_NAMES_name.ext E298).keep K319q nin0).keep K354q (ninS ne299 nin0)).keep K396q nin0)
        have f409 := ((f371.keep K354q).keep K396q)
        have f410 := ((((pf_F_s_NAMES_name_coder.ext E298).keep K319q nin0).keep K354q (ninS ne304 nin0)).keep K396q nin0)
        have f411 := ((((pf_F_s_NAMES_name_value.ext E298).keep K319q nin0).keep K354q (ninS ne304 nin0)).keep K396q nin0)
        have f412 := ((((pf_F_s_ATTRIBUTES_name.ext E298).keep K319q nin0).keep K354q (ninS ne301 nin0)).keep K396q nin0)
        have f413 := ((f373.keep K354q).keep K396q)
        have f414 := ((((pf_F_s_ATTRIBUTES_name_coder.ext E298).keep K319q nin0).keep K354q (ninS ne305 nin0)).keep K396q nin0)
        have f415 := ((((pf_F_s_ATTRIBUTES_name_value.ext E298).keep K319q nin0).keep K354q (ninS ne305 nin0)).keep K396q nin0)
        have f416 := ((((pf_F_s_TYPES_name.ext E298).keep K319q nin0).keep K354q (ninS ne302 nin0)).keep K396q nin0)
        have f417 := ((f375.keep K354q).keep K396q)
        have f418 := ((((pf_F_s_TYPES_name_coder.ext E298).keep K319q nin0).keep K354q (ninS ne306 nin0)).keep K396q nin0)
        have f419 := ((((pf_F_s_TYPES_name_value.ext E298).keep K319q nin0).keep K354q (ninS ne306 nin0)).keep K396q nin0)
        have f420 := ((((pf_F_s_LINKS_name.ext E298).keep K319q nin0).keep K354q (ninS ne303 nin0)).keep K396q nin0)
        have f421 := ((f377.keep K354q).keep K396q)
        have f422 := ((((pf_F_s_LINKS_name_coder.ext E298).keep K319q nin0).keep K354q (ninS ne307 nin0)).keep K396q nin0)
        have f423 := ((((pf_F_s_LINKS_name_value.ext E298).keep K319q nin0).keep K354q (ninS ne307 nin0)).keep K396q nin0)
        have f424 := ((((pf_A_s_VALUES.ext E298).keep K319q nin0).keep K354q (ninS ne300 nin0)).keep K396q nin0)
        have f425 := ((f379.keep K354q (ninS ne308 nin0)).keep K396q nin0)
        have f426 := ((f381.keep K354q (ninS ne309 nin0)).keep K396q nin0)
        have f427 := ((f383.keep K354q (ninS ne310 nin0)).keep K396q nin0)
        have f428 := ((f385.keep K354q (ninS ne311 nin0)).keep K396q nin0)
        have f429 := (hE354.keep K396q)
        have f430 := (hV354.keep K396q nin0)
        have f431 := (hC354.keep K396q nin0)
        have f432 := (f394.keep K396q nin0)
        have f434 := (Nat.le_trans f397 K396q.1)
        obtain ⟨_, _, ⟨T433, L433, k433, n433⟩, -, X433, ⟨Lc433, hQ433, l433, y433, z433⟩, st433⟩ := Jvm.LawKit.callS X396 hx (y := MN11) hown (mvT hZ wo53) (mvT hZ wo54) (mvT hZ wo51) (mvT hZ wo55) (by decide) (backOf (W := 0) (rmNam l Z a0 hw [] b298 t354 (Int32.ofNat (own_short kk).length) (own_short kk) s_NAMES s_VALUES s_ATTRIBUTES s_TYPES s_LINKS s_NAMES_name s_NAMES_name_value s_ATTRIBUTES_name s_ATTRIBUTES_name_value s_TYPES_name s_TYPES_name_value s_LINKS_name s_LINKS_name_value cs (T396.heap) n0 f434 f402 pf_S_com_example_iskati_iskati_entity_EntityField_NAMES f403 pf_S_com_example_iskati_iskati_entity_EntityField__VALUES f404 pf_S_com_example_iskati_iskati_entity_EntityField_ATTRIBUTES f405 pf_S_com_example_iskati_iskati_entity_EntityField_TYPES f406 pf_S_com_example_iskati_iskati_entity_EntityField_LINKS f407 f408 f409 f410 f411 f412 f413 f414 f415 f416 f417 f418 f419 f420 f421 f422 f423 f424 f425 f426 f427 f428 pf_S_java_lang_String_COMPACT_STRINGS (hcs : ¬ (cs = (0 : Int32))) f429 f430 f431 f432 ((by rfl) : (Int32.ofNat (own_short kk).length) = Int32.ofNat (own_short kk).length) ((own_shortr kk) : ∀ c ∈ (own_short kk), ¬ c < 0 ∧ ¬ (255 : Int32) < c) (Nat.le_trans (own_short0 kk).2 (show 9 ≤ 4000 from Nat.le_of_ble_eq_true rfl) : (own_short kk).length ≤ 4000)) hZ wo55 wo51 (by decide) (by decide)) (g := (mkF m 212 #[iv p0_0, iv p0_1, iv p0_2, iv p0_3, iv kk, iv md, iv c1, iv c2, rv b298, .val (own_pk (own_short kk) s_NAMES s_ATTRIBUTES s_TYPES s_LINKS), .unset] [(.ref b298)])) rfl (by rw [hml]; rfl) (argsL := [(.ref b298)]) (rest := []) (lenOf pd_9 rfl) rfl (by show 2 * 0 + _ ≤ _; exact Nat.le_of_eq rfl) (hb hby at_212) (fun _ _ => ⟨rfl, rfl, (by decide : 11 + 1 ≤ _), (by decide : 138 + 4 ≤ _)⟩)
        dsimp only [Pt.U, Pt.locs, Pt.cells, Pt.slots] at X433 l433 y433 z433 st433 hQ433
        rw [l433, y433, z433] at X433
        obtain ⟨rfl, N433q, K433q⟩ := hQ433
        have N435 := Fr.app N398 N433q
        have CS436 : CHr Z consts_1 T396.vm (T396.heap) T396.vm (T433.heap) := (CHr.keep K433q all0 CR400.1)
        have CR437 := CR400.trans CS436
        have K438 : Keep h0 T433.heap [] := (K401).trans K433q all0
        have f439 := (Nat.le_trans (Nat.le_refl T396.heap.size) K433q.1)
        obtain ⟨fs, hr, hrun, hended, -, hW1, hW2, hW3⟩ := X433.leaveW S396 f439 (v := some (.int (1 : Int32))) (fun h => by rw [Bd.returns] at h; cases h)
        refine ⟨_, _, pre297 _ ?_, hrun, hended, _, _, rfl, ?_, hW1, hW2, hW3.mono (by decide) (by decide)⟩
        · show Steps p.tables e below (s₁.setTop (mkF m 94 #[iv p0_0, iv p0_1, iv p0_2, iv p0_3, iv kk, iv md, iv c1, iv c2, .unset, .unset, .unset] [(.int (2 : Int32)), (.int md)])) _
          refine XS.icmpNo X0.here hx rfl (hb hby at_94) rfl (teq hc94_296).2 ?_
          show Steps p.tables e below (s₁.setTop (mkF m 97 #[iv p0_0, iv p0_1, iv p0_2, iv p0_3, iv kk, iv md, iv c1, iv c2, .unset, .unset, .unset] [])) _
          refine st298 _ ?_
          show Steps p.tables e below (T298.setTop (mkF m 100 #[iv p0_0, iv p0_1, iv p0_2, iv p0_3, iv kk, iv md, iv c1, iv c2, .unset, .unset, .unset] [(.ref b298)])) _
          refine XS.dup X298.here hx rfl (hb hby at_100) rfl rfl ?_
          show Steps p.tables e below (T298.setTop (mkF m 101 #[iv p0_0, iv p0_1, iv p0_2, iv p0_3, iv kk, iv md, iv c1, iv c2, .unset, .unset, .unset] [(.ref b298), (.ref b298)])) _
          refine XS.iload X298.here hx rfl (hb hby at_101) rfl ?_
          show Steps p.tables e below (T298.setTop (mkF m 103 #[iv p0_0, iv p0_1, iv p0_2, iv p0_3, iv kk, iv md, iv c1, iv c2, .unset, .unset, .unset] [(.int kk), (.ref b298), (.ref b298)])) _
          refine st319 _ ?_
          show Steps p.tables e below (T319.setTop (mkF m 106 #[iv p0_0, iv p0_1, iv p0_2, iv p0_3, iv kk, iv md, iv c1, iv c2, .unset, .unset, .unset] [(.ref r_319), (.ref b298), (.ref b298)])) _
          refine st354.trans ?_
          show Steps p.tables e below (T354.setTop (mkF m 109 #[iv p0_0, iv p0_1, iv p0_2, iv p0_3, iv kk, iv md, iv c1, iv c2, .unset, .unset, .unset] [(.ref b298)])) _
          refine XS.astore X354.here hx rfl (hb hby at_109) rfl rfl (l' := #[iv p0_0, iv p0_1, iv p0_2, iv p0_3, iv kk, iv md, iv c1, iv c2, rv b298, .unset, .unset]) rfl ?_
          show Steps p.tables e below (T354.setTop (mkF m 111 #[iv p0_0, iv p0_1, iv p0_2, iv p0_3, iv kk, iv md, iv c1, iv c2, rv b298, .unset, .unset] [])) _
          refine XS.goto X354.here hx rfl (pc0 := 111) (pc' := 203) rfl (hb hby at_111) (by decide) (by decide) ?_
          show Steps p.tables e below (T354.setTop (mkF m 203 #[iv p0_0, iv p0_1, iv p0_2, iv p0_3, iv kk, iv md, iv c1, iv c2, rv b298, .unset, .unset] [])) _
          refine XS.aload X354.here hx rfl (hb hby at_203) rfl rfl ?_
          show Steps p.tables e below (T354.setTop (mkF m 205 #[iv p0_0, iv p0_1, iv p0_2, iv p0_3, iv kk, iv md, iv c1, iv c2, rv b298, .unset, .unset] [(.ref b298)])) _
          refine st396.trans ?_
          show Steps p.tables e below (T396.setTop (mkF m 208 #[iv p0_0, iv p0_1, iv p0_2, iv p0_3, iv kk, iv md, iv c1, iv c2, rv b298, .unset, .unset] [(own_pk (own_short kk) s_NAMES s_ATTRIBUTES s_TYPES s_LINKS)])) _
          refine XS.astore X396.here hx rfl (hb hby at_208) rfl (own_pkr (own_short kk) s_NAMES s_ATTRIBUTES s_TYPES s_LINKS) (l' := #[iv p0_0, iv p0_1, iv p0_2, iv p0_3, iv kk, iv md, iv c1, iv c2, rv b298, .val (own_pk (own_short kk) s_NAMES s_ATTRIBUTES s_TYPES s_LINKS), .unset]) (storeLocals_cat1 rfl (own_cat (own_pkr (own_short kk) s_NAMES s_ATTRIBUTES s_TYPES s_LINKS)) (by first | trivial | rfl)) ?_
          show Steps p.tables e below (T396.setTop (mkF m 210 #[iv p0_0, iv p0_1, iv p0_2, iv p0_3, iv kk, iv md, iv c1, iv c2, rv b298, .val (own_pk (own_short kk) s_NAMES s_ATTRIBUTES s_TYPES s_LINKS), .unset] [])) _
          refine XS.aload X396.here hx rfl (hb hby at_210) rfl rfl ?_
          show Steps p.tables e below (T396.setTop (mkF m 212 #[iv p0_0, iv p0_1, iv p0_2, iv p0_3, iv kk, iv md, iv c1, iv c2, rv b298, .val (own_pk (own_short kk) s_NAMES s_ATTRIBUTES s_TYPES s_LINKS), .unset] [(.ref b298)])) _
          refine st433 _ ?_
          show Steps p.tables e below (T433.setTop (mkF m 215 #[iv p0_0, iv p0_1, iv p0_2, iv p0_3, iv kk, iv md, iv c1, iv c2, rv b298, .val (own_pk (own_short kk) s_NAMES s_ATTRIBUTES s_TYPES s_LINKS), .unset] [(own_pk (own_short kk) s_NAMES s_ATTRIBUTES s_TYPES s_LINKS)])) _
          refine XS.astore X433.here hx rfl (hb hby at_215) rfl (own_pkr (own_short kk) s_NAMES s_ATTRIBUTES s_TYPES s_LINKS) (l' := #[iv p0_0, iv p0_1, iv p0_2, iv p0_3, iv kk, iv md, iv c1, iv c2, rv b298, .val (own_pk (own_short kk) s_NAMES s_ATTRIBUTES s_TYPES s_LINKS), .val (own_pk (own_short kk) s_NAMES s_ATTRIBUTES s_TYPES s_LINKS)]) (storeLocals_cat1 rfl (own_cat (own_pkr (own_short kk) s_NAMES s_ATTRIBUTES s_TYPES s_LINKS)) (by first | trivial | rfl)) ?_
          show Steps p.tables e below (T433.setTop (mkF m 217 #[iv p0_0, iv p0_1, iv p0_2, iv p0_3, iv kk, iv md, iv c1, iv c2, rv b298, .val (own_pk (own_short kk) s_NAMES s_ATTRIBUTES s_TYPES s_LINKS), .val (own_pk (own_short kk) s_NAMES s_ATTRIBUTES s_TYPES s_LINKS)] [])) _
          refine XS.aload X433.here hx rfl (hb hby at_217) rfl (own_pkr (own_short kk) s_NAMES s_ATTRIBUTES s_TYPES s_LINKS) ?_
          show Steps p.tables e below (T433.setTop (mkF m 219 #[iv p0_0, iv p0_1, iv p0_2, iv p0_3, iv kk, iv md, iv c1, iv c2, rv b298, .val (own_pk (own_short kk) s_NAMES s_ATTRIBUTES s_TYPES s_LINKS), .val (own_pk (own_short kk) s_NAMES s_ATTRIBUTES s_TYPES s_LINKS)] [(own_pk (own_short kk) s_NAMES s_ATTRIBUTES s_TYPES s_LINKS)])) _
          refine XS.aload X433.here hx rfl (hb hby at_219) rfl (own_pkr (own_short kk) s_NAMES s_ATTRIBUTES s_TYPES s_LINKS) ?_
          show Steps p.tables e below (T433.setTop (mkF m 221 #[iv p0_0, iv p0_1, iv p0_2, iv p0_3, iv kk, iv md, iv c1, iv c2, rv b298, .val (own_pk (own_short kk) s_NAMES s_ATTRIBUTES s_TYPES s_LINKS), .val (own_pk (own_short kk) s_NAMES s_ATTRIBUTES s_TYPES s_LINKS)] [(own_pk (own_short kk) s_NAMES s_ATTRIBUTES s_TYPES s_LINKS), (own_pk (own_short kk) s_NAMES s_ATTRIBUTES s_TYPES s_LINKS)])) _
          refine Jvm.RoadKit.acmp (g := (mkF m 221 #[iv p0_0, iv p0_1, iv p0_2, iv p0_3, iv kk, iv md, iv c1, iv c2, rv b298, .val (own_pk (own_short kk) s_NAMES s_ATTRIBUTES s_TYPES s_LINKS), .val (own_pk (own_short kk) s_NAMES s_ATTRIBUTES s_TYPES s_LINKS)] [(own_pk (own_short kk) s_NAMES s_ATTRIBUTES s_TYPES s_LINKS), (own_pk (own_short kk) s_NAMES s_ATTRIBUTES s_TYPES s_LINKS)])) X433 hx rfl (own_pkr (own_short kk) s_NAMES s_ATTRIBUTES s_TYPES s_LINKS) (own_pkr (own_short kk) s_NAMES s_ATTRIBUTES s_TYPES s_LINKS) (pc0 := 221) (pc' := 224) (same := true) rfl (hb hby at_221) rfl (decide_eq_true rfl) (by decide) (by decide) ?_
          show Steps p.tables e below (T433.setTop (mkF m 224 #[iv p0_0, iv p0_1, iv p0_2, iv p0_3, iv kk, iv md, iv c1, iv c2, rv b298, .val (own_pk (own_short kk) s_NAMES s_ATTRIBUTES s_TYPES s_LINKS), .val (own_pk (own_short kk) s_NAMES s_ATTRIBUTES s_TYPES s_LINKS)] [])) _
          refine XS.iconst X433.here hx rfl (hb hby at_224) ?_
          show Steps p.tables e below (T433.setTop (mkF m 225 #[iv p0_0, iv p0_1, iv p0_2, iv p0_3, iv kk, iv md, iv c1, iv c2, rv b298, .val (own_pk (own_short kk) s_NAMES s_ATTRIBUTES s_TYPES s_LINKS), .val (own_pk (own_short kk) s_NAMES s_ATTRIBUTES s_TYPES s_LINKS)] [(.int (1 : Int32))])) _
          refine XS.goto X433.here hx rfl (pc0 := 225) (pc' := 229) rfl (hb hby at_225) (by decide) (by decide) ?_
          show Steps p.tables e below (T433.setTop (mkF m 229 #[iv p0_0, iv p0_1, iv p0_2, iv p0_3, iv kk, iv md, iv c1, iv c2, rv b298, .val (own_pk (own_short kk) s_NAMES s_ATTRIBUTES s_TYPES s_LINKS), .val (own_pk (own_short kk) s_NAMES s_ATTRIBUTES s_TYPES s_LINKS)] [(.int (1 : Int32))])) _
          exact retN X433 hx (t := .boolean) Bd.returns (by simp) (hb hby at_229) hr
        · show Q_rm0 Z _ _ _ _ _ _ _ _ _ _ _ _ _ _ _ _ _ _ h0 n0 _ T433.heap _
          exact ⟨rfl, N435, (K438)⟩
      · skip
        have pre441 : ∀ t, Steps p.tables e below (s₁.setTop (mkF m 117 #[iv p0_0, iv p0_1, iv p0_2, iv p0_3, iv kk, iv md, iv c1, iv c2, .unset, .unset, .unset] [(.int (3 : Int32)), (.int md)])) t → Steps p.tables e below (s₁.setTop (entryFrame m #[(.int p0_0), (.int p0_1), (.int p0_2), (.int p0_3)] maxLocals)) t := by
          intro t_ k_
          refine pre297 _ ?_
          show Steps p.tables e below (s₁.setTop (mkF m 94 #[iv p0_0, iv p0_1, iv p0_2, iv p0_3, iv kk, iv md, iv c1, iv c2, .unset, .unset, .unset] [(.int (2 : Int32)), (.int md)])) _
          refine XS.icmpYes X0.here hx rfl (pc0 := 94) (pc' := 114) rfl (hb hby at_94) rfl (feq hc94_296).2 (by decide) (by decide) ?_
          show Steps p.tables e below (s₁.setTop (mkF m 114 #[iv p0_0, iv p0_1, iv p0_2, iv p0_3, iv kk, iv md, iv c1, iv c2, .unset, .unset, .unset] [])) _
          refine XS.iload X0.here hx rfl (hb hby at_114) rfl ?_
          show Steps p.tables e below (s₁.setTop (mkF m 116 #[iv p0_0, iv p0_1, iv p0_2, iv p0_3, iv kk, iv md, iv c1, iv c2, .unset, .unset, .unset] [(.int md)])) _
          refine XS.iconst X0.here hx rfl (hb hby at_116) ?_
          exact k_
        by_cases hc117_440 : md = (3 : Int32)
        · skip
          obtain ⟨T442, h442, X442, e442, E442, A442, D442, -, st442⟩ := newO X0 hx hZ hown wo0 wo1 wo2 e0 (g := (mkF m 120 #[iv p0_0, iv p0_1, iv p0_2, iv p0_3, iv kk, iv md, iv c1, iv c2, .unset, .unset, .unset] [])) rfl (hb hby at_120) (by decide) (by decide)
          obtain ⟨b442, gg442⟩ : ∃ z, z = h0.size := ⟨_, rfl⟩
          rw [← gg442] at A442 D442 st442
          have ne443 : s_NAMES ≠ b442 := Nat.ne_of_lt (Nat.lt_of_lt_of_le pf_E_s_NAMES.lt (Nat.le_of_eq gg442.symm))
          have ne444 : s_VALUES ≠ b442 := Nat.ne_of_lt (Nat.lt_of_lt_of_le pf_E_s_VALUES.lt (Nat.le_of_eq gg442.symm))
          have ne445 : s_ATTRIBUTES ≠ b442 := Nat.ne_of_lt (Nat.lt_of_lt_of_le pf_E_s_ATTRIBUTES.lt (Nat.le_of_eq gg442.symm))
          have ne446 : s_TYPES ≠ b442 := Nat.ne_of_lt (Nat.lt_of_lt_of_le pf_E_s_TYPES.lt (Nat.le_of_eq gg442.symm))
          have ne447 : s_LINKS ≠ b442 := Nat.ne_of_lt (Nat.lt_of_lt_of_le pf_E_s_LINKS.lt (Nat.le_of_eq gg442.symm))
          have ne448 : s_NAMES_name ≠ b442 := Nat.ne_of_lt (Nat.lt_of_lt_of_le pf_E_s_NAMES_name.lt (Nat.le_of_eq gg442.symm))
          have ne449 : s_ATTRIBUTES_name ≠ b442 := Nat.ne_of_lt (Nat.lt_of_lt_of_le pf_E_s_ATTRIBUTES_name.lt (Nat.le_of_eq gg442.symm))
          have ne450 : s_TYPES_name ≠ b442 := Nat.ne_of_lt (Nat.lt_of_lt_of_le pf_E_s_TYPES_name.lt (Nat.le_of_eq gg442.symm))
          have ne451 : s_LINKS_name ≠ b442 := Nat.ne_of_lt (Nat.lt_of_lt_of_le pf_E_s_LINKS_name.lt (Nat.le_of_eq gg442.symm))
          have ne452 : s_NAMES_name_value ≠ b442 := Nat.ne_of_lt (Nat.lt_of_lt_of_le pf_A_s_NAMES_name_value.lt (Nat.le_of_eq gg442.symm))
          have ne453 : s_ATTRIBUTES_name_value ≠ b442 := Nat.ne_of_lt (Nat.lt_of_lt_of_le pf_A_s_ATTRIBUTES_name_value.lt (Nat.le_of_eq gg442.symm))
          have ne454 : s_TYPES_name_value ≠ b442 := Nat.ne_of_lt (Nat.lt_of_lt_of_le pf_A_s_TYPES_name_value.lt (Nat.le_of_eq gg442.symm))
          have ne455 : s_LINKS_name_value ≠ b442 := Nat.ne_of_lt (Nat.lt_of_lt_of_le pf_A_s_LINKS_name_value.lt (Nat.le_of_eq gg442.symm))
          have g456 : n0 ≤ b442 := Nat.le_trans Z0 (Nat.le_of_eq gg442.symm)
          have bz457 : h0.size ≤ b442 := Nat.le_trans (Keep.refl h0 []).1 (Nat.le_of_eq gg442.symm)
          have CS458 : CHr Z consts_1 s.vm h0 s.vm h442 := (CHr.ext E442 CR0.1)
          have CR459 := CR0.trans CS458
          have K460 : Keep h0 h442 [] := (Keep.refl h0 []).ext E442
          have f461 : Fld Z h442 b442 "java/lang/String" "coder" "B" (.int (0 : Int32)) := D442 (Or.inr wo31) (ty := .byte) (by decide)
          have f462 : Fld Z h442 b442 "java/lang/String" "value" "[B" .null := D442 (Or.inr wo33) (ty := (.array .byte)) (by decide)
          have f464 := (Nat.le_trans Z0 E442.1)
          obtain ⟨_, _, ⟨T463, L463, k463, n463⟩, -, X463, ⟨Lc463, hQ463, l463, y463, z463⟩, st463⟩ := Jvm.LawKit.callS X442 hx (y := MN13) hown (mvT hZ wo77) (mvT hZ wo78) (mvT hZ wo5) (mvT hZ wo79) (by decide) (backOf (W := 2) (rm13 l Z a0 hw [] kk c1 h442 n0 f464 (hrc1 : ¬ c1 < 0 ∧ ¬ (255 : Int32) < c1)) hZ wo79 wo5 (by decide) (by decide)) (g := (mkF m 128 #[iv p0_0, iv p0_1, iv p0_2, iv p0_3, iv kk, iv md, iv c1, iv c2, .unset, .unset, .unset] [(.int c1), (.int kk), (.ref b442), (.ref b442)])) rfl (by rw [hml]; rfl) (argsL := [(.int kk), (.int c1)]) (rest := [(.ref b442), (.ref b442)]) (lenOf pd_7 rfl) rfl (by show 2 * 0 + _ ≤ _; exact Nat.le_of_eq rfl) (hb hby at_128) (fun _ _ => ⟨rfl, e442, (by decide : 1 + 1 ≤ _), (by decide : 4 + 11 ≤ _)⟩)
          dsimp only [Pt.U, Pt.locs, Pt.cells, Pt.slots] at X463 l463 y463 z463 st463 hQ463
          rw [l463, y463, z463] at X463
          obtain ⟨r_463, rfl, N463q, K463q, hq463_0, hq463_1⟩ := hQ463
          have N465 := Fr.app N0 N463q
          have f466 := (pf_E_s_NAMES.ext E442)
          have ne467 : s_NAMES ≠ r_463 := Nat.ne_of_lt (Nat.lt_of_lt_of_le f466.lt hq463_0)
          have f468 := (pf_E_s_VALUES.ext E442)
          have ne469 : s_VALUES ≠ r_463 := Nat.ne_of_lt (Nat.lt_of_lt_of_le f468.lt hq463_0)
          have f470 := (pf_E_s_ATTRIBUTES.ext E442)
          have ne471 : s_ATTRIBUTES ≠ r_463 := Nat.ne_of_lt (Nat.lt_of_lt_of_le f470.lt hq463_0)
          have f472 := (pf_E_s_TYPES.ext E442)
          have ne473 : s_TYPES ≠ r_463 := Nat.ne_of_lt (Nat.lt_of_lt_of_le f472.lt hq463_0)
          have f474 := (pf_E_s_LINKS.ext E442)
          have ne475 : s_LINKS ≠ r_463 := Nat.ne_of_lt (Nat.lt_of_lt_of_le f474.lt hq463_0)
          have f476 := (pf_E_s_NAMES_name.ext E442)
          have ne477 : s_NAMES_name ≠ r_463 := Nat.ne_of_lt (Nat.lt_of_lt_of_le f476.lt hq463_0)
          have f478 := (pf_E_s_ATTRIBUTES_name.ext E442)
          have ne479 : s_ATTRIBUTES_name ≠ r_463 := Nat.ne_of_lt (Nat.lt_of_lt_of_le f478.lt hq463_0)
          have f480 := (pf_E_s_TYPES_name.ext E442)
          have ne481 : s_TYPES_name ≠ r_463 := Nat.ne_of_lt (Nat.lt_of_lt_of_le f480.lt hq463_0)
          have f482 := (pf_E_s_LINKS_name.ext E442)
          have ne483 : s_LINKS_name ≠ r_463 := Nat.ne_of_lt (Nat.lt_of_lt_of_le f482.lt hq463_0)
          have f484 := (pf_A_s_NAMES_name_value.ext E442)
          have ne485 : s_NAMES_name_value ≠ r_463 := Nat.ne_of_lt (Nat.lt_of_lt_of_le f484.lt hq463_0)
          have f486 := (pf_A_s_ATTRIBUTES_name_value.ext E442)
          have ne487 : s_ATTRIBUTES_name_value ≠ r_463 := Nat.ne_of_lt (Nat.lt_of_lt_of_le f486.lt hq463_0)
          have f488 := (pf_A_s_TYPES_name_value.ext E442)
          have ne489 : s_TYPES_name_value ≠ r_463 := Nat.ne_of_lt (Nat.lt_of_lt_of_le f488.lt hq463_0)
          have f490 := (pf_A_s_LINKS_name_value.ext E442)
          have ne491 : s_LINKS_name_value ≠ r_463 := Nat.ne_of_lt (Nat.lt_of_lt_of_le f490.lt hq463_0)
          have ne492 : b442 ≠ r_463 := Nat.ne_of_lt (Nat.lt_of_lt_of_le A442.lt hq463_0)
          have g493 : n0 ≤ r_463 := Nat.le_trans f464 hq463_0
          have bz494 : h0.size ≤ r_463 := Nat.le_trans (K460).1 hq463_0
          have CS495 : CHr Z consts_1 s.vm h442 s.vm (T463.heap) := (CHr.keep K463q all0 CR459.1)
          have CR496 := CR459.trans CS495
          have K497 : Keep h0 T463.heap [] := (K460).trans K463q all0
          obtain ⟨kc498, Vc498⟩ := id hq463_1
          have hws498 : ∀ d ∈ StrChars.Road.words, d.before a0 Z = true := fun d hd => hw d ((by decide +kernel : ∀ d ∈ StrChars.Road.words, d ∈ tables_1) d hd)
          have hbd498 : ((own_long kk c1) : List Int32).length ≤ 11 := (own_long0 kk c1).2
          have f499 := ((pf_O.ext E442).keep K463q all0)
          have f500 := (Nat.le_trans f464 K463q.1)
          have f501 := (A442.keep K463q)
          have f502 := (f462.keep K463q nin0)
          have f503 := (f461.keep K463q nin0)
          obtain ⟨_, _, ⟨T498, L498, k498, n498⟩, -, X498, ⟨Lc498, hQ498, l498, y498, z498⟩, st498⟩ := X463.specialBack hx (y := MN2) rfl hown (mvT hZ wo8) (mvT hZ wo9) (mvT hZ wo10) (by decide) (StrChars.Road.backV (W := 1) hZ hws498 (kI := 4) wo1 (cs := ((own_long kk c1) : List Int32)) (bs := ((own_long kk c1) : List Int32).map (fun c => c.toInt8.toInt32)) (n := ((own_long kk c1) : List Int32).length) g456 f500 f501 f502 f503 Vc498 (pf_S_java_lang_String_COMPACT_STRINGS.ext f499.2) hcs rfl rfl (own_long0 kk c1).1 (Nat.le_trans hbd498 (by decide)) (own_longr kk hrc1) rfl (by decide) (by decide)) (g := (mkF m 131 #[iv p0_0, iv p0_1, iv p0_2, iv p0_3, iv kk, iv md, iv c1, iv c2, .unset, .unset, .unset] [(.ref r_463), (.ref b442), (.ref b442)])) rfl (by rw [hml]; rfl) (Steps.refl _) (a := b442) (argsL := [(.ref r_463)]) (rest := [(.ref b442)]) (lenOf pd_13 rfl) rfl (by show 2 * 0 + _ ≤ _; exact Nat.le_of_eq rfl) (hb hby at_131) (fun _ _ => ⟨rfl, rfl, (by decide : 2 + 1 ≤ _), (Nat.le_trans (Nat.add_le_add_left hbd498 15) (by decide : 15 + 11 ≤ _))⟩)
          dsimp only [Pt.U, Pt.locs, Pt.cells, Pt.slots] at X498 l498 y498 z498 st498 hQ498
          rw [l498, y498, z498] at X498
          have X498 := X498.mono (Nat.le_refl _) (Nat.add_le_add_left hbd498 15)
          obtain ⟨rfl, N498q, K498q, hE498, hC498, t498, kb498, gt498, bt498, nt498, hV498, hA498⟩ := hQ498
          have N504 := Fr.app N465 N498q
          have f505 := (f466.keep K463q)
          have ne506 : s_NAMES ≠ t498 := Nat.ne_of_lt (Nat.lt_of_lt_of_le f505.lt bt498)
          have f507 := (f468.keep K463q)
          have ne508 : s_VALUES ≠ t498 := Nat.ne_of_lt (Nat.lt_of_lt_of_le f507.lt bt498)
          have f509 := (f470.keep K463q)
          have ne510 : s_ATTRIBUTES ≠ t498 := Nat.ne_of_lt (Nat.lt_of_lt_of_le f509.lt bt498)
          have f511 := (f472.keep K463q)
          have ne512 : s_TYPES ≠ t498 := Nat.ne_of_lt (Nat.lt_of_lt_of_le f511.lt bt498)
          have f513 := (f474.keep K463q)
          have ne514 : s_LINKS ≠ t498 := Nat.ne_of_lt (Nat.lt_of_lt_of_le f513.lt bt498)
          have f515 := (f476.keep K463q)
          have ne516 : s_NAMES_name ≠ t498 := Nat.ne_of_lt (Nat.lt_of_lt_of_le f515.lt bt498)
          have f517 := (f478.keep K463q)
          have ne518 : s_ATTRIBUTES_name ≠ t498 := Nat.ne_of_lt (Nat.lt_of_lt_of_le f517.lt bt498)
          have f519 := (f480.keep K463q)
          have ne520 : s_TYPES_name ≠ t498 := Nat.ne_of_lt (Nat.lt_of_lt_of_le f519.lt bt498)
          have f521 := (f482.keep K463q)
          have ne522 : s_LINKS_name ≠ t498 := Nat.ne_of_lt (Nat.lt_of_lt_of_le f521.lt bt498)
          have f523 := (f484.keep K463q nin0)
          have ne524 : s_NAMES_name_value ≠ t498 := Nat.ne_of_lt (Nat.lt_of_lt_of_le f523.lt bt498)
          have f525 := (f486.keep K463q nin0)
          have ne526 : s_ATTRIBUTES_name_value ≠ t498 := Nat.ne_of_lt (Nat.lt_of_lt_of_le f525.lt bt498)
          have f527 := (f488.keep K463q nin0)
          have ne528 : s_TYPES_name_value ≠ t498 := Nat.ne_of_lt (Nat.lt_of_lt_of_le f527.lt bt498)
          have f529 := (f490.keep K463q nin0)
          have ne530 : s_LINKS_name_value ≠ t498 := Nat.ne_of_lt (Nat.lt_of_lt_of_le f529.lt bt498)
          have ne531 : b442 ≠ t498 := Nat.ne_of_lt (Nat.lt_of_lt_of_le f501.lt bt498)
          have ne532 : r_463 ≠ t498 := Nat.ne_of_lt (Nat.lt_of_lt_of_le hq463_1.lt bt498)
          have g533 : n0 ≤ t498 := Nat.le_trans f500 bt498
          have bz534 : h0.size ≤ t498 := Nat.le_trans (K497).1 bt498
          have CS535 : CHr Z consts_1 s.vm (T463.heap) s.vm (T498.heap) := (CHr.keep K498q (allS (P := fun x => Safe Z consts_1 s.vm _ x) (own_safeNull hZ.alike f501 f502) all0) CR496.1)
          have CR536 := CR496.trans CS535
          have K537 : Keep h0 T498.heap [] := (K497).trans K498q (allS (P := fun x => x ∈ [] ∨ h0.size ≤ x) (Or.inr bz457) all0)
          have f538 : Av Z T498.heap t498 .byte (Int32.ofNat (own_long kk c1).length) (own_vs (own_long kk c1)) (.int (0 : Int32)) := ⟨kb498, by have q_ := hA498; rw [List.map_map] at q_; exact q_⟩
          have f539 := (f499.keep K498q (allS g456 all0))
          have f541 := (Nat.le_trans f500 K498q.1)
          have hZ540 := hZ
          have hown540 := hown
          obtain ⟨_, _, ⟨T540, L540, k540, n540⟩, -, X540, Sp540, Gp540, ⟨Lc540, hQ540, l540, y540, z540, cc540⟩, st540⟩ := callSS X498 hx (y := MN8) hown (mvT hZ wo34) (mvT hZ wo35) (mvT hZ wo5) (mvT hZ wo36) (by decide) (backOfSH (s := s) (vm0 := s.vm) (W := 0) (rmExp l Z a0 hw [] b442 t498 (Int32.ofNat (own_long kk c1).length) (own_long kk c1) s_NAMES s_ATTRIBUTES s_TYPES s_LINKS cs (T498.heap) n0 f541 f539 pf_S_com_example_iskati_iskati_entity_EntityField_NAMES pf_S_com_example_iskati_iskati_entity_EntityField_ATTRIBUTES pf_S_com_example_iskati_iskati_entity_EntityField_TYPES pf_S_com_example_iskati_iskati_entity_EntityField_LINKS pf_S_java_lang_String_COMPACT_STRINGS (hcs : ¬ (cs = (0 : Int32))) hE498 hV498 hC498 f538 ((by rfl) : (Int32.ofNat (own_long kk c1).length) = Int32.ofNat (own_long kk c1).length) ((own_longr kk hrc1) : ∀ c ∈ (own_long kk c1), ¬ c < 0 ∧ ¬ (255 : Int32) < c) (Nat.le_trans (own_long0 kk c1).2 (show 11 ≤ 4000 from Nat.le_of_ble_eq_true rfl) : (own_long kk c1).length ≤ 4000)) hZ wo36 wo5 (by decide) (by decide) hEL CR536.1) (g := (mkF m 205 #[iv p0_0, iv p0_1, iv p0_2, iv p0_3, iv kk, iv md, iv c1, iv c2, rv b442, .unset, .unset] [(.ref b442)])) rfl (by rw [hml]; rfl) (argsL := [(.ref b442)]) (rest := []) (lenOf pd_9 rfl) rfl (by show 2 * 0 + _ ≤ _; exact Nat.le_of_eq rfl) (hb hby at_205) (fun _ _ => ⟨rfl, rfl, (by decide : 3 + 8 ≤ _), (by decide : 26 + 116 ≤ _)⟩)
          dsimp only [Pt.U, Pt.locs, Pt.cells, Pt.slots] at X540 l540 y540 z540 st540 hQ540 Sp540 Gp540 cc540
          rw [l540, y540, z540] at X540
          obtain ⟨X540, S540, hZ, hown⟩ := rebS (s := s) (vm0 := s.vm) (Z := Z) (own := "com/example/iskati/iskati/entity/EntityFieldNamedPinLaw") ((State.WarmedH.refl s).since 0) (Nat.zero_le _) X540 Sp540 Gp540 hZ hown
          obtain ⟨rfl, N540q, K540q⟩ := hQ540
          have N542 := Fr.app N504 N540q
          have CS543 : CHr Z consts_1 s.vm (T498.heap) T540.vm (T540.heap) := cc540
          have CR544 := CR536.trans CS543
          have K545 : Keep h0 T540.heap [] := (K537).trans K540q all0
          have f546 := (f539.keep K540q all0)
          have f547 := ((f505.keep K498q).keep K540q)
          have f548 := ((f507.keep K498q).keep K540q)
          have f549 := ((f509.keep K498q).keep K540q)
          have f550 := ((f511.keep K498q).keep K540q)
          have f551 := ((f513.keep K498q).keep K540q)
          have f552 := ((((pf_F_s_NAMES_name.ext E442).keep K463q nin0).keep K498q (ninS ne443 nin0)).keep K540q nin0)
          have f553 := ((f515.keep K498q).keep K540q)
          have f554 := ((((pf_F_s_NAMES_name_coder.ext E442).keep K463q nin0).keep K498q (ninS ne448 nin0)).keep K540q nin0)
          have f555 := ((((pf_F_s_NAMES_name_value.ext E442).keep K463q nin0).keep K498q (ninS ne448 nin0)).keep K540q nin0)
          have f556 := ((((pf_F_s_ATTRIBUTES_name.ext E442).keep K463q nin0).keep K498q (ninS ne445 nin0)).keep K540q nin0)
          have f557 := ((f517.keep K498q).keep K540q)
          have f558 := ((((pf_F_s_ATTRIBUTES_name_coder.ext E442).keep K463q nin0).keep K498q (ninS ne449 nin0)).keep K540q nin0)
          have f559 := ((((pf_F_s_ATTRIBUTES_name_value.ext E442).keep K463q nin0).keep K498q (ninS ne449 nin0)).keep K540q nin0)
          have f560 := ((((pf_F_s_TYPES_name.ext E442).keep K463q nin0).keep K498q (ninS ne446 nin0)).keep K540q nin0)
          have f561 := ((f519.keep K498q).keep K540q)
          have f562 := ((((pf_F_s_TYPES_name_coder.ext E442).keep K463q nin0).keep K498q (ninS ne450 nin0)).keep K540q nin0)
          have f563 := ((((pf_F_s_TYPES_name_value.ext E442).keep K463q nin0).keep K498q (ninS ne450 nin0)).keep K540q nin0)
          have f564 := ((((pf_F_s_LINKS_name.ext E442).keep K463q nin0).keep K498q (ninS ne447 nin0)).keep K540q nin0)
          have f565 := ((f521.keep K498q).keep K540q)
          have f566 := ((((pf_F_s_LINKS_name_coder.ext E442).keep K463q nin0).keep K498q (ninS ne451 nin0)).keep K540q nin0)
          have f567 := ((((pf_F_s_LINKS_name_value.ext E442).keep K463q nin0).keep K498q (ninS ne451 nin0)).keep K540q nin0)
          have f568 := ((((pf_A_s_VALUES.ext E442).keep K463q nin0).keep K498q (ninS ne444 nin0)).keep K540q nin0)
          have f569 := ((f523.keep K498q (ninS ne452 nin0)).keep K540q nin0)
          have f570 := ((f525.keep K498q (ninS ne453 nin0)).keep K540q nin0)
          have f571 := ((f527.keep K498q (ninS ne454 nin0)).keep K540q nin0)
          have f572 := ((f529.keep K498q (ninS ne455 nin0)).keep K540q nin0)
          have f573 := (hE498.keep K540q)
          have f574 := (hV498.keep K540q nin0)
          have f575 := (hC498.keep K540q nin0)
          have f576 := (f538.keep K540q nin0)
          have f578 := (Nat.le_trans f541 K540q.1)
          obtain ⟨_, _, ⟨T577, L577, k577, n577⟩, -, X577, ⟨Lc577, hQ577, l577, y577, z577⟩, st577⟩ := Jvm.LawKit.callS X540 hx (y := MN11) hown (mvT hZ wo53) (mvT hZ wo54) (mvT hZ wo51) (mvT hZ wo55) (by decide) (backOf (W := 0) (rmNam l Z a0 hw [] b442 t498 (Int32.ofNat (own_long kk c1).length) (own_long kk c1) s_NAMES s_VALUES s_ATTRIBUTES s_TYPES s_LINKS s_NAMES_name s_NAMES_name_value s_ATTRIBUTES_name s_ATTRIBUTES_name_value s_TYPES_name s_TYPES_name_value s_LINKS_name s_LINKS_name_value cs (T540.heap) n0 f578 f546 pf_S_com_example_iskati_iskati_entity_EntityField_NAMES f547 pf_S_com_example_iskati_iskati_entity_EntityField__VALUES f548 pf_S_com_example_iskati_iskati_entity_EntityField_ATTRIBUTES f549 pf_S_com_example_iskati_iskati_entity_EntityField_TYPES f550 pf_S_com_example_iskati_iskati_entity_EntityField_LINKS f551 f552 f553 f554 f555 f556 f557 f558 f559 f560 f561 f562 f563 f564 f565 f566 f567 f568 f569 f570 f571 f572 pf_S_java_lang_String_COMPACT_STRINGS (hcs : ¬ (cs = (0 : Int32))) f573 f574 f575 f576 ((by rfl) : (Int32.ofNat (own_long kk c1).length) = Int32.ofNat (own_long kk c1).length) ((own_longr kk hrc1) : ∀ c ∈ (own_long kk c1), ¬ c < 0 ∧ ¬ (255 : Int32) < c) (Nat.le_trans (own_long0 kk c1).2 (show 11 ≤ 4000 from Nat.le_of_ble_eq_true rfl) : (own_long kk c1).length ≤ 4000)) hZ wo55 wo51 (by decide) (by decide)) (g := (mkF m 212 #[iv p0_0, iv p0_1, iv p0_2, iv p0_3, iv kk, iv md, iv c1, iv c2, rv b442, .val (own_pk (own_long kk c1) s_NAMES s_ATTRIBUTES s_TYPES s_LINKS), .unset] [(.ref b442)])) rfl (by rw [hml]; rfl) (argsL := [(.ref b442)]) (rest := []) (lenOf pd_9 rfl) rfl (by show 2 * 0 + _ ≤ _; exact Nat.le_of_eq rfl) (hb hby at_212) (fun _ _ => ⟨rfl, rfl, (by decide : 11 + 1 ≤ _), (by decide : 142 + 4 ≤ _)⟩)
          dsimp only [Pt.U, Pt.locs, Pt.cells, Pt.slots] at X577 l577 y577 z577 st577 hQ577
          rw [l577, y577, z577] at X577
          obtain ⟨rfl, N577q, K577q⟩ := hQ577
          have N579 := Fr.app N542 N577q
          have CS580 : CHr Z consts_1 T540.vm (T540.heap) T540.vm (T577.heap) := (CHr.keep K577q all0 CR544.1)
          have CR581 := CR544.trans CS580
          have K582 : Keep h0 T577.heap [] := (K545).trans K577q all0
          have f583 := (Nat.le_trans (Nat.le_refl T540.heap.size) K577q.1)
          obtain ⟨fs, hr, hrun, hended, -, hW1, hW2, hW3⟩ := X577.leaveW S540 f583 (v := some (.int (1 : Int32))) (fun h => by rw [Bd.returns] at h; cases h)
          refine ⟨_, _, pre441 _ ?_, hrun, hended, _, _, rfl, ?_, hW1, hW2, hW3.mono (by decide) (by decide)⟩
          · show Steps p.tables e below (s₁.setTop (mkF m 117 #[iv p0_0, iv p0_1, iv p0_2, iv p0_3, iv kk, iv md, iv c1, iv c2, .unset, .unset, .unset] [(.int (3 : Int32)), (.int md)])) _
            refine XS.icmpNo X0.here hx rfl (hb hby at_117) rfl (teq hc117_440).2 ?_
            show Steps p.tables e below (s₁.setTop (mkF m 120 #[iv p0_0, iv p0_1, iv p0_2, iv p0_3, iv kk, iv md, iv c1, iv c2, .unset, .unset, .unset] [])) _
            refine st442 _ ?_
            show Steps p.tables e below (T442.setTop (mkF m 123 #[iv p0_0, iv p0_1, iv p0_2, iv p0_3, iv kk, iv md, iv c1, iv c2, .unset, .unset, .unset] [(.ref b442)])) _
            refine XS.dup X442.here hx rfl (hb hby at_123) rfl rfl ?_
            show Steps p.tables e below (T442.setTop (mkF m 124 #[iv p0_0, iv p0_1, iv p0_2, iv p0_3, iv kk, iv md, iv c1, iv c2, .unset, .unset, .unset] [(.ref b442), (.ref b442)])) _
            refine XS.iload X442.here hx rfl (hb hby at_124) rfl ?_
            show Steps p.tables e below (T442.setTop (mkF m 126 #[iv p0_0, iv p0_1, iv p0_2, iv p0_3, iv kk, iv md, iv c1, iv c2, .unset, .unset, .unset] [(.int kk), (.ref b442), (.ref b442)])) _
            refine XS.iload X442.here hx rfl (hb hby at_126) rfl ?_
            show Steps p.tables e below (T442.setTop (mkF m 128 #[iv p0_0, iv p0_1, iv p0_2, iv p0_3, iv kk, iv md, iv c1, iv c2, .unset, .unset, .unset] [(.int c1), (.int kk), (.ref b442), (.ref b442)])) _
            refine st463 _ ?_
            show Steps p.tables e below (T463.setTop (mkF m 131 #[iv p0_0, iv p0_1, iv p0_2, iv p0_3, iv kk, iv md, iv c1, iv c2, .unset, .unset, .unset] [(.ref r_463), (.ref b442), (.ref b442)])) _
            refine st498.trans ?_
            show Steps p.tables e below (T498.setTop (mkF m 134 #[iv p0_0, iv p0_1, iv p0_2, iv p0_3, iv kk, iv md, iv c1, iv c2, .unset, .unset, .unset] [(.ref b442)])) _
            refine XS.astore X498.here hx rfl (hb hby at_134) rfl rfl (l' := #[iv p0_0, iv p0_1, iv p0_2, iv p0_3, iv kk, iv md, iv c1, iv c2, rv b442, .unset, .unset]) rfl ?_
            show Steps p.tables e below (T498.setTop (mkF m 136 #[iv p0_0, iv p0_1, iv p0_2, iv p0_3, iv kk, iv md, iv c1, iv c2, rv b442, .unset, .unset] [])) _
            refine XS.goto X498.here hx rfl (pc0 := 136) (pc' := 203) rfl (hb hby at_136) (by decide) (by decide) ?_
            show Steps p.tables e below (T498.setTop (mkF m 203 #[iv p0_0, iv p0_1, iv p0_2, iv p0_3, iv kk, iv md, iv c1, iv c2, rv b442, .unset, .unset] [])) _
            refine XS.aload X498.here hx rfl (hb hby at_203) rfl rfl ?_
            show Steps p.tables e below (T498.setTop (mkF m 205 #[iv p0_0, iv p0_1, iv p0_2, iv p0_3, iv kk, iv md, iv c1, iv c2, rv b442, .unset, .unset] [(.ref b442)])) _
            refine st540.trans ?_
            show Steps p.tables e below (T540.setTop (mkF m 208 #[iv p0_0, iv p0_1, iv p0_2, iv p0_3, iv kk, iv md, iv c1, iv c2, rv b442, .unset, .unset] [(own_pk (own_long kk c1) s_NAMES s_ATTRIBUTES s_TYPES s_LINKS)])) _
            refine XS.astore X540.here hx rfl (hb hby at_208) rfl (own_pkr (own_long kk c1) s_NAMES s_ATTRIBUTES s_TYPES s_LINKS) (l' := #[iv p0_0, iv p0_1, iv p0_2, iv p0_3, iv kk, iv md, iv c1, iv c2, rv b442, .val (own_pk (own_long kk c1) s_NAMES s_ATTRIBUTES s_TYPES s_LINKS), .unset]) (storeLocals_cat1 rfl (own_cat (own_pkr (own_long kk c1) s_NAMES s_ATTRIBUTES s_TYPES s_LINKS)) (by first | trivial | rfl)) ?_
            show Steps p.tables e below (T540.setTop (mkF m 210 #[iv p0_0, iv p0_1, iv p0_2, iv p0_3, iv kk, iv md, iv c1, iv c2, rv b442, .val (own_pk (own_long kk c1) s_NAMES s_ATTRIBUTES s_TYPES s_LINKS), .unset] [])) _
            refine XS.aload X540.here hx rfl (hb hby at_210) rfl rfl ?_
            show Steps p.tables e below (T540.setTop (mkF m 212 #[iv p0_0, iv p0_1, iv p0_2, iv p0_3, iv kk, iv md, iv c1, iv c2, rv b442, .val (own_pk (own_long kk c1) s_NAMES s_ATTRIBUTES s_TYPES s_LINKS), .unset] [(.ref b442)])) _
            refine st577 _ ?_
            show Steps p.tables e below (T577.setTop (mkF m 215 #[iv p0_0, iv p0_1, iv p0_2, iv p0_3, iv kk, iv md, iv c1, iv c2, rv b442, .val (own_pk (own_long kk c1) s_NAMES s_ATTRIBUTES s_TYPES s_LINKS), .unset] [(own_pk (own_long kk c1) s_NAMES s_ATTRIBUTES s_TYPES s_LINKS)])) _
            refine XS.astore X577.here hx rfl (hb hby at_215) rfl (own_pkr (own_long kk c1) s_NAMES s_ATTRIBUTES s_TYPES s_LINKS) (l' := #[iv p0_0, iv p0_1, iv p0_2, iv p0_3, iv kk, iv md, iv c1, iv c2, rv b442, .val (own_pk (own_long kk c1) s_NAMES s_ATTRIBUTES s_TYPES s_LINKS), .val (own_pk (own_long kk c1) s_NAMES s_ATTRIBUTES s_TYPES s_LINKS)]) (storeLocals_cat1 rfl (own_cat (own_pkr (own_long kk c1) s_NAMES s_ATTRIBUTES s_TYPES s_LINKS)) (by first | trivial | rfl)) ?_
            show Steps p.tables e below (T577.setTop (mkF m 217 #[iv p0_0, iv p0_1, iv p0_2, iv p0_3, iv kk, iv md, iv c1, iv c2, rv b442, .val (own_pk (own_long kk c1) s_NAMES s_ATTRIBUTES s_TYPES s_LINKS), .val (own_pk (own_long kk c1) s_NAMES s_ATTRIBUTES s_TYPES s_LINKS)] [])) _
            refine XS.aload X577.here hx rfl (hb hby at_217) rfl (own_pkr (own_long kk c1) s_NAMES s_ATTRIBUTES s_TYPES s_LINKS) ?_
            show Steps p.tables e below (T577.setTop (mkF m 219 #[iv p0_0, iv p0_1, iv p0_2, iv p0_3, iv kk, iv md, iv c1, iv c2, rv b442, .val (own_pk (own_long kk c1) s_NAMES s_ATTRIBUTES s_TYPES s_LINKS), .val (own_pk (own_long kk c1) s_NAMES s_ATTRIBUTES s_TYPES s_LINKS)] [(own_pk (own_long kk c1) s_NAMES s_ATTRIBUTES s_TYPES s_LINKS)])) _
            refine XS.aload X577.here hx rfl (hb hby at_219) rfl (own_pkr (own_long kk c1) s_NAMES s_ATTRIBUTES s_TYPES s_LINKS) ?_
            show Steps p.tables e below (T577.setTop (mkF m 221 #[iv p0_0, iv p0_1, iv p0_2, iv p0_3, iv kk, iv md, iv c1, iv c2, rv b442, .val (own_pk (own_long kk c1) s_NAMES s_ATTRIBUTES s_TYPES s_LINKS), .val (own_pk (own_long kk c1) s_NAMES s_ATTRIBUTES s_TYPES s_LINKS)] [(own_pk (own_long kk c1) s_NAMES s_ATTRIBUTES s_TYPES s_LINKS), (own_pk (own_long kk c1) s_NAMES s_ATTRIBUTES s_TYPES s_LINKS)])) _
            refine Jvm.RoadKit.acmp (g := (mkF m 221 #[iv p0_0, iv p0_1, iv p0_2, iv p0_3, iv kk, iv md, iv c1, iv c2, rv b442, .val (own_pk (own_long kk c1) s_NAMES s_ATTRIBUTES s_TYPES s_LINKS), .val (own_pk (own_long kk c1) s_NAMES s_ATTRIBUTES s_TYPES s_LINKS)] [(own_pk (own_long kk c1) s_NAMES s_ATTRIBUTES s_TYPES s_LINKS), (own_pk (own_long kk c1) s_NAMES s_ATTRIBUTES s_TYPES s_LINKS)])) X577 hx rfl (own_pkr (own_long kk c1) s_NAMES s_ATTRIBUTES s_TYPES s_LINKS) (own_pkr (own_long kk c1) s_NAMES s_ATTRIBUTES s_TYPES s_LINKS) (pc0 := 221) (pc' := 224) (same := true) rfl (hb hby at_221) rfl (decide_eq_true rfl) (by decide) (by decide) ?_
            show Steps p.tables e below (T577.setTop (mkF m 224 #[iv p0_0, iv p0_1, iv p0_2, iv p0_3, iv kk, iv md, iv c1, iv c2, rv b442, .val (own_pk (own_long kk c1) s_NAMES s_ATTRIBUTES s_TYPES s_LINKS), .val (own_pk (own_long kk c1) s_NAMES s_ATTRIBUTES s_TYPES s_LINKS)] [])) _
            refine XS.iconst X577.here hx rfl (hb hby at_224) ?_
            show Steps p.tables e below (T577.setTop (mkF m 225 #[iv p0_0, iv p0_1, iv p0_2, iv p0_3, iv kk, iv md, iv c1, iv c2, rv b442, .val (own_pk (own_long kk c1) s_NAMES s_ATTRIBUTES s_TYPES s_LINKS), .val (own_pk (own_long kk c1) s_NAMES s_ATTRIBUTES s_TYPES s_LINKS)] [(.int (1 : Int32))])) _
            refine XS.goto X577.here hx rfl (pc0 := 225) (pc' := 229) rfl (hb hby at_225) (by decide) (by decide) ?_
            show Steps p.tables e below (T577.setTop (mkF m 229 #[iv p0_0, iv p0_1, iv p0_2, iv p0_3, iv kk, iv md, iv c1, iv c2, rv b442, .val (own_pk (own_long kk c1) s_NAMES s_ATTRIBUTES s_TYPES s_LINKS), .val (own_pk (own_long kk c1) s_NAMES s_ATTRIBUTES s_TYPES s_LINKS)] [(.int (1 : Int32))])) _
            exact retN X577 hx (t := .boolean) Bd.returns (by simp) (hb hby at_229) hr
          · show Q_rm0 Z _ _ _ _ _ _ _ _ _ _ _ _ _ _ _ _ _ _ h0 n0 _ T577.heap _
            exact ⟨rfl, N579, (K582)⟩
        · skip
          have pre585 : ∀ t, Steps p.tables e below (s₁.setTop (mkF m 142 #[iv p0_0, iv p0_1, iv p0_2, iv p0_3, iv kk, iv md, iv c1, iv c2, .unset, .unset, .unset] [(.int (4 : Int32)), (.int md)])) t → Steps p.tables e below (s₁.setTop (entryFrame m #[(.int p0_0), (.int p0_1), (.int p0_2), (.int p0_3)] maxLocals)) t := by
            intro t_ k_
            refine pre441 _ ?_
            show Steps p.tables e below (s₁.setTop (mkF m 117 #[iv p0_0, iv p0_1, iv p0_2, iv p0_3, iv kk, iv md, iv c1, iv c2, .unset, .unset, .unset] [(.int (3 : Int32)), (.int md)])) _
            refine XS.icmpYes X0.here hx rfl (pc0 := 117) (pc' := 139) rfl (hb hby at_117) rfl (feq hc117_440).2 (by decide) (by decide) ?_
            show Steps p.tables e below (s₁.setTop (mkF m 139 #[iv p0_0, iv p0_1, iv p0_2, iv p0_3, iv kk, iv md, iv c1, iv c2, .unset, .unset, .unset] [])) _
            refine XS.iload X0.here hx rfl (hb hby at_139) rfl ?_
            show Steps p.tables e below (s₁.setTop (mkF m 141 #[iv p0_0, iv p0_1, iv p0_2, iv p0_3, iv kk, iv md, iv c1, iv c2, .unset, .unset, .unset] [(.int md)])) _
            refine XS.iconst X0.here hx rfl (hb hby at_141) ?_
            exact k_
          by_cases hc142_584 : md = (4 : Int32)
          · skip
            obtain ⟨_, _, ⟨T586, L586, k586, n586⟩, -, X586, ⟨Lc586, hQ586, l586, y586, z586⟩, st586⟩ := Jvm.LawKit.callS X0 hx (y := MN8) hown (mvT hZ wo34) (mvT hZ wo35) (mvT hZ wo5) (mvT hZ wo36) (by decide) (backOf (W := 0) (rmExpN l Z a0 hw []  h0 n0 Z0 ) hZ wo36 wo5 (by decide) (by decide)) (g := (mkF m 205 #[iv p0_0, iv p0_1, iv p0_2, iv p0_3, iv kk, iv md, iv c1, iv c2, .val .null, .unset, .unset] [.null])) rfl (by rw [hml]; rfl) (argsL := [.null]) (rest := []) (lenOf pd_9 rfl) rfl (by show 2 * 0 + _ ≤ _; exact Nat.le_of_eq rfl) (hb hby at_205) (fun _ _ => ⟨rfl, e0, (by decide : 0 + 0 ≤ _), (by decide : 0 + 0 ≤ _)⟩)
            dsimp only [Pt.U, Pt.locs, Pt.cells, Pt.slots] at X586 l586 y586 z586 st586 hQ586
            rw [l586, y586, z586] at X586
            obtain ⟨rfl, N586q, K586q⟩ := hQ586
            have N587 := Fr.app N0 N586q
            obtain ⟨_, _, ⟨T588, L588, k588, n588⟩, -, X588, ⟨Lc588, hQ588, l588, y588, z588⟩, st588⟩ := Jvm.LawKit.callS X586 hx (y := MN11) hown (mvT hZ wo53) (mvT hZ wo54) (mvT hZ wo51) (mvT hZ wo55) (by decide) (backOf (W := 0) (rmNamN l Z a0 hw [] s_NAMES s_VALUES s_ATTRIBUTES s_TYPES s_LINKS s_NAMES_name s_NAMES_name_value s_ATTRIBUTES_name s_ATTRIBUTES_name_value s_TYPES_name s_TYPES_name_value s_LINKS_name s_LINKS_name_value cs h0 n0 Z0 pf_O pf_S_com_example_iskati_iskati_entity_EntityField_NAMES pf_E_s_NAMES pf_S_com_example_iskati_iskati_entity_EntityField__VALUES pf_E_s_VALUES pf_S_com_example_iskati_iskati_entity_EntityField_ATTRIBUTES pf_E_s_ATTRIBUTES pf_S_com_example_iskati_iskati_entity_EntityField_TYPES pf_E_s_TYPES pf_S_com_example_iskati_iskati_entity_EntityField_LINKS pf_E_s_LINKS pf_F_s_NAMES_name pf_E_s_NAMES_name pf_F_s_NAMES_name_coder pf_F_s_NAMES_name_value pf_F_s_ATTRIBUTES_name pf_E_s_ATTRIBUTES_name pf_F_s_ATTRIBUTES_name_coder pf_F_s_ATTRIBUTES_name_value pf_F_s_TYPES_name pf_E_s_TYPES_name pf_F_s_TYPES_name_coder pf_F_s_TYPES_name_value pf_F_s_LINKS_name pf_E_s_LINKS_name pf_F_s_LINKS_name_coder pf_F_s_LINKS_name_value pf_A_s_VALUES pf_A_s_NAMES_name_value pf_A_s_ATTRIBUTES_name_value pf_A_s_TYPES_name_value pf_A_s_LINKS_name_value pf_S_java_lang_String_COMPACT_STRINGS (hcs : ¬ (cs = (0 : Int32)))) hZ wo55 wo51 (by decide) (by decide)) (g := (mkF m 212 #[iv p0_0, iv p0_1, iv p0_2, iv p0_3, iv kk, iv md, iv c1, iv c2, .val .null, .val .null, .unset] [.null])) rfl (by rw [hml]; rfl) (argsL := [.null]) (rest := []) (lenOf pd_9 rfl) rfl (by show 2 * 0 + _ ≤ _; exact Nat.le_of_eq rfl) (hb hby at_212) (fun _ _ => ⟨rfl, K586q, (by decide : 0 + 1 ≤ _), (by decide : 0 + 4 ≤ _)⟩)
            dsimp only [Pt.U, Pt.locs, Pt.cells, Pt.slots] at X588 l588 y588 z588 st588 hQ588
            rw [l588, y588, z588] at X588
            obtain ⟨rfl, N588q, K588q⟩ := hQ588
            have N589 := Fr.app N587 N588q
            have CS590 : CHr Z consts_1 s.vm h0 s.vm (T588.heap) := (CHr.keep K588q all0 CR0.1)
            have CR591 := CR0.trans CS590
            have K592 : Keep h0 T588.heap [] := (Keep.refl h0 []).trans K588q all0
            obtain ⟨fs, hr, hrun, hended, hW, hsame⟩ := X588.leave (v := some (.int (1 : Int32))) (fun h => by rw [Bd.returns] at h; cases h)
            obtain ⟨-, hW1, hW2, hW3⟩ := ReturnedEndW.of_narrow (o := Outcome.returned (some (.int (1 : Int32)))) ⟨_, rfl⟩ hW hsame
            refine ⟨_, _, pre585 _ ?_, hrun, hended, _, _, rfl, ?_, hW1, hW2, hW3.mono (by decide) (by decide)⟩
            · show Steps p.tables e below (s₁.setTop (mkF m 142 #[iv p0_0, iv p0_1, iv p0_2, iv p0_3, iv kk, iv md, iv c1, iv c2, .unset, .unset, .unset] [(.int (4 : Int32)), (.int md)])) _
              refine XS.icmpNo X0.here hx rfl (hb hby at_142) rfl (teq hc142_584).2 ?_
              show Steps p.tables e below (s₁.setTop (mkF m 145 #[iv p0_0, iv p0_1, iv p0_2, iv p0_3, iv kk, iv md, iv c1, iv c2, .unset, .unset, .unset] [])) _
              refine XS.aconstNull X0.here hx rfl (hb hby at_145) ?_
              show Steps p.tables e below (s₁.setTop (mkF m 146 #[iv p0_0, iv p0_1, iv p0_2, iv p0_3, iv kk, iv md, iv c1, iv c2, .unset, .unset, .unset] [.null])) _
              refine XS.astore X0.here hx rfl (hb hby at_146) rfl rfl (l' := #[iv p0_0, iv p0_1, iv p0_2, iv p0_3, iv kk, iv md, iv c1, iv c2, .val .null, .unset, .unset]) rfl ?_
              show Steps p.tables e below (s₁.setTop (mkF m 148 #[iv p0_0, iv p0_1, iv p0_2, iv p0_3, iv kk, iv md, iv c1, iv c2, .val .null, .unset, .unset] [])) _
              refine XS.goto X0.here hx rfl (pc0 := 148) (pc' := 203) rfl (hb hby at_148) (by decide) (by decide) ?_
              show Steps p.tables e below (s₁.setTop (mkF m 203 #[iv p0_0, iv p0_1, iv p0_2, iv p0_3, iv kk, iv md, iv c1, iv c2, .val .null, .unset, .unset] [])) _
              refine XS.aload X0.here hx rfl (hb hby at_203) rfl rfl ?_
              show Steps p.tables e below (s₁.setTop (mkF m 205 #[iv p0_0, iv p0_1, iv p0_2, iv p0_3, iv kk, iv md, iv c1, iv c2, .val .null, .unset, .unset] [.null])) _
              refine st586 _ ?_
              show Steps p.tables e below (T586.setTop (mkF m 208 #[iv p0_0, iv p0_1, iv p0_2, iv p0_3, iv kk, iv md, iv c1, iv c2, .val .null, .unset, .unset] [.null])) _
              refine XS.astore X586.here hx rfl (hb hby at_208) rfl rfl (l' := #[iv p0_0, iv p0_1, iv p0_2, iv p0_3, iv kk, iv md, iv c1, iv c2, .val .null, .val .null, .unset]) rfl ?_
              show Steps p.tables e below (T586.setTop (mkF m 210 #[iv p0_0, iv p0_1, iv p0_2, iv p0_3, iv kk, iv md, iv c1, iv c2, .val .null, .val .null, .unset] [])) _
              refine XS.aload X586.here hx rfl (hb hby at_210) rfl rfl ?_
              show Steps p.tables e below (T586.setTop (mkF m 212 #[iv p0_0, iv p0_1, iv p0_2, iv p0_3, iv kk, iv md, iv c1, iv c2, .val .null, .val .null, .unset] [.null])) _
              refine st588 _ ?_
              show Steps p.tables e below (T588.setTop (mkF m 215 #[iv p0_0, iv p0_1, iv p0_2, iv p0_3, iv kk, iv md, iv c1, iv c2, .val .null, .val .null, .unset] [.null])) _
              refine XS.astore X588.here hx rfl (hb hby at_215) rfl rfl (l' := #[iv p0_0, iv p0_1, iv p0_2, iv p0_3, iv kk, iv md, iv c1, iv c2, .val .null, .val .null, .val .null]) rfl ?_
              show Steps p.tables e below (T588.setTop (mkF m 217 #[iv p0_0, iv p0_1, iv p0_2, iv p0_3, iv kk, iv md, iv c1, iv c2, .val .null, .val .null, .val .null] [])) _
              refine XS.aload X588.here hx rfl (hb hby at_217) rfl rfl ?_
              show Steps p.tables e below (T588.setTop (mkF m 219 #[iv p0_0, iv p0_1, iv p0_2, iv p0_3, iv kk, iv md, iv c1, iv c2, .val .null, .val .null, .val .null] [.null])) _
              refine XS.aload X588.here hx rfl (hb hby at_219) rfl rfl ?_
              show Steps p.tables e below (T588.setTop (mkF m 221 #[iv p0_0, iv p0_1, iv p0_2, iv p0_3, iv kk, iv md, iv c1, iv c2, .val .null, .val .null, .val .null] [.null, .null])) _
              refine Jvm.RoadKit.acmp (g := (mkF m 221 #[iv p0_0, iv p0_1, iv p0_2, iv p0_3, iv kk, iv md, iv c1, iv c2, .val .null, .val .null, .val .null] [.null, .null])) X588 hx rfl rfl rfl (pc0 := 221) (pc' := 224) (same := true) rfl (hb hby at_221) rfl (decide_eq_true rfl) (by decide) (by decide) ?_
              show Steps p.tables e below (T588.setTop (mkF m 224 #[iv p0_0, iv p0_1, iv p0_2, iv p0_3, iv kk, iv md, iv c1, iv c2, .val .null, .val .null, .val .null] [])) _
              refine XS.iconst X588.here hx rfl (hb hby at_224) ?_
              show Steps p.tables e below (T588.setTop (mkF m 225 #[iv p0_0, iv p0_1, iv p0_2, iv p0_3, iv kk, iv md, iv c1, iv c2, .val .null, .val .null, .val .null] [(.int (1 : Int32))])) _
              refine XS.goto X588.here hx rfl (pc0 := 225) (pc' := 229) rfl (hb hby at_225) (by decide) (by decide) ?_
              show Steps p.tables e below (T588.setTop (mkF m 229 #[iv p0_0, iv p0_1, iv p0_2, iv p0_3, iv kk, iv md, iv c1, iv c2, .val .null, .val .null, .val .null] [(.int (1 : Int32))])) _
              exact retN X588 hx (t := .boolean) Bd.returns (by simp) (hb hby at_229) hr
            · show Q_rm0 Z _ _ _ _ _ _ _ _ _ _ _ _ _ _ _ _ _ _ h0 n0 _ T588.heap _
              exact ⟨rfl, N589, (K592)⟩
          · skip
            have pre594 : ∀ t, Steps p.tables e below (s₁.setTop (mkF m 154 #[iv p0_0, iv p0_1, iv p0_2, iv p0_3, iv kk, iv md, iv c1, iv c2, .unset, .unset, .unset] [(.int (5 : Int32)), (.int md)])) t → Steps p.tables e below (s₁.setTop (entryFrame m #[(.int p0_0), (.int p0_1), (.int p0_2), (.int p0_3)] maxLocals)) t := by
              intro t_ k_
              refine pre585 _ ?_
              show Steps p.tables e below (s₁.setTop (mkF m 142 #[iv p0_0, iv p0_1, iv p0_2, iv p0_3, iv kk, iv md, iv c1, iv c2, .unset, .unset, .unset] [(.int (4 : Int32)), (.int md)])) _
              refine XS.icmpYes X0.here hx rfl (pc0 := 142) (pc' := 151) rfl (hb hby at_142) rfl (feq hc142_584).2 (by decide) (by decide) ?_
              show Steps p.tables e below (s₁.setTop (mkF m 151 #[iv p0_0, iv p0_1, iv p0_2, iv p0_3, iv kk, iv md, iv c1, iv c2, .unset, .unset, .unset] [])) _
              refine XS.iload X0.here hx rfl (hb hby at_151) rfl ?_
              show Steps p.tables e below (s₁.setTop (mkF m 153 #[iv p0_0, iv p0_1, iv p0_2, iv p0_3, iv kk, iv md, iv c1, iv c2, .unset, .unset, .unset] [(.int md)])) _
              refine XS.iconst X0.here hx rfl (hb hby at_153) ?_
              exact k_
            by_cases hc154_593 : md = (5 : Int32)
            · skip
              have pre595 : ∀ t, Steps p.tables e below (s₁.setTop (mkF m 157 #[iv p0_0, iv p0_1, iv p0_2, iv p0_3, iv kk, iv md, iv c1, iv c2, .unset, .unset, .unset] [])) t → Steps p.tables e below (s₁.setTop (entryFrame m #[(.int p0_0), (.int p0_1), (.int p0_2), (.int p0_3)] maxLocals)) t := by
                intro t_ k_
                refine pre594 _ ?_
                show Steps p.tables e below (s₁.setTop (mkF m 154 #[iv p0_0, iv p0_1, iv p0_2, iv p0_3, iv kk, iv md, iv c1, iv c2, .unset, .unset, .unset] [(.int (5 : Int32)), (.int md)])) _
                refine XS.icmpNo X0.here hx rfl (hb hby at_154) rfl (teq hc154_593).2 ?_
                exact k_
              obtain ⟨sa596, T596, h596, k596, sb596, kb596, X596, e596, E596, S596, K596, hZ, hown, hE596, hC596, hV596, hA596, -, -, cc596, -, NS596, st596⟩ := ldcCH (s := s) (vm0 := s.vm) X0 hx hZ hown wo97 (fun d hd => hw d ((by decide +kernel : ∀ d ∈ Bundle.stringAtoms, d ∈ tables_1) d hd)) e0 ((State.WarmedH.refl s).since 0) (Nat.zero_le _) hEL (List.mem_of_getElem? (i := 0) rfl) CR0.1 (vs := (own_vs [])) (z := 0) ⟨by decide, by rfl⟩ (by decide) (by decide) (g := (mkF m 157 #[iv p0_0, iv p0_1, iv p0_2, iv p0_3, iv kk, iv md, iv c1, iv c2, .unset, .unset, .unset] [])) rfl (hb hby at_157) (n := 0) (by decide) (by decide) (by decide) (by decide)
              have CS597 : CHr Z consts_1 s.vm h0 T596.vm h596 := cc596
              have CR598 := CR0.trans CS597
              have K599 : Keep h0 h596 [] := (Keep.refl h0 []).ext E596
              have f600 := (pf_E_s_NAMES.ext E596)
              have ne601 := NS596 _ (Safe.exa hZ.alike f600 (by decide) (by decide))
              have f602 := (pf_E_s_VALUES.ext E596)
              have ne603 := NS596 _ (Safe.exa hZ.alike f602 (by decide) (by decide))
              have f604 := (pf_E_s_ATTRIBUTES.ext E596)
              have ne605 := NS596 _ (Safe.exa hZ.alike f604 (by decide) (by decide))
              have f606 := (pf_E_s_TYPES.ext E596)
              have ne607 := NS596 _ (Safe.exa hZ.alike f606 (by decide) (by decide))
              have f608 := (pf_E_s_LINKS.ext E596)
              have ne609 := NS596 _ (Safe.exa hZ.alike f608 (by decide) (by decide))
              have f610 : Av Z h596 sb596 .byte (0 : Int32) (own_vs []) (.int (0 : Int32)) := ⟨kb596, hA596⟩
              have f611 := (pf_O.ext E596)
              have f613 := (Nat.le_trans Z0 E596.1)
              have hZ612 := hZ
              have hown612 := hown
              obtain ⟨_, _, ⟨T612, L612, k612, n612⟩, -, X612, Sp612, Gp612, ⟨Lc612, hQ612, l612, y612, z612, cc612⟩, st612⟩ := callSS X596 hx (y := MN8) hown (mvT hZ wo34) (mvT hZ wo35) (mvT hZ wo5) (mvT hZ wo36) (by decide) (backOfSH (s := s) (vm0 := T596.vm) (W := 0) (rmExp l Z a0 hw [] sa596 sb596 (0 : Int32) ([]) s_NAMES s_ATTRIBUTES s_TYPES s_LINKS cs h596 n0 f613 f611 pf_S_com_example_iskati_iskati_entity_EntityField_NAMES pf_S_com_example_iskati_iskati_entity_EntityField_ATTRIBUTES pf_S_com_example_iskati_iskati_entity_EntityField_TYPES pf_S_com_example_iskati_iskati_entity_EntityField_LINKS pf_S_java_lang_String_COMPACT_STRINGS (hcs : ¬ (cs = (0 : Int32))) hE596 hV596 hC596 f610 ((by rfl) : (0 : Int32) = Int32.ofNat [].length) (own_nil : ∀ c ∈ [], ¬ c < 0 ∧ ¬ (255 : Int32) < c) ((Nat.le_of_ble_eq_true rfl) : [].length ≤ 4000)) hZ wo36 wo5 (by decide) (by decide) hEL CR598.1) (g := (mkF m 205 #[iv p0_0, iv p0_1, iv p0_2, iv p0_3, iv kk, iv md, iv c1, iv c2, rv sa596, .unset, .unset] [(.ref sa596)])) rfl (by rw [hml]; rfl) (argsL := [(.ref sa596)]) (rest := []) (lenOf pd_9 rfl) rfl (by show 2 * 0 + _ ≤ _; exact Nat.le_of_eq rfl) (hb hby at_205) (fun _ _ => ⟨rfl, e596, (by decide : 2 + 8 ≤ _), (by decide : 4 + 116 ≤ _)⟩)
              dsimp only [Pt.U, Pt.locs, Pt.cells, Pt.slots] at X612 l612 y612 z612 st612 hQ612 Sp612 Gp612 cc612
              rw [l612, y612, z612] at X612
              obtain ⟨X612, S612, hZ, hown⟩ := rebS (s := s) (vm0 := T596.vm) (Z := Z) (own := "com/example/iskati/iskati/entity/EntityFieldNamedPinLaw") S596 (by rw [e596]; exact K596) X612 Sp612 Gp612 hZ hown
              obtain ⟨rfl, N612q, K612q⟩ := hQ612
              have N614 := Fr.app N0 N612q
              have CS615 : CHr Z consts_1 T596.vm h596 T612.vm (T612.heap) := cc612
              have CR616 := CR598.trans CS615
              have K617 : Keep h0 T612.heap [] := (K599).trans K612q all0
              have f618 := (f611.keep K612q all0)
              have f619 := (f600.keep K612q)
              have f620 := (f602.keep K612q)
              have f621 := (f604.keep K612q)
              have f622 := (f606.keep K612q)
              have f623 := (f608.keep K612q)
              have f624 := ((pf_F_s_NAMES_name.ext E596).keep K612q nin0)
              have f625 := ((pf_E_s_NAMES_name.ext E596).keep K612q)
              have f626 := ((pf_F_s_NAMES_name_coder.ext E596).keep K612q nin0)
              have f627 := ((pf_F_s_NAMES_name_value.ext E596).keep K612q nin0)
              have f628 := ((pf_F_s_ATTRIBUTES_name.ext E596).keep K612q nin0)
              have f629 := ((pf_E_s_ATTRIBUTES_name.ext E596).keep K612q)
              have f630 := ((pf_F_s_ATTRIBUTES_name_coder.ext E596).keep K612q nin0)
              have f631 := ((pf_F_s_ATTRIBUTES_name_value.ext E596).keep K612q nin0)
              have f632 := ((pf_F_s_TYPES_name.ext E596).keep K612q nin0)
              have f633 := ((pf_E_s_TYPES_name.ext E596).keep K612q)
              have f634 := ((pf_F_s_TYPES_name_coder.ext E596).keep K612q nin0)
              have f635 := ((pf_F_s_TYPES_name_value.ext E596).keep K612q nin0)
              have f636 := ((pf_F_s_LINKS_name.ext E596).keep K612q nin0)
              have f637 := ((pf_E_s_LINKS_name.ext E596).keep K612q)
              have f638 := ((pf_F_s_LINKS_name_coder.ext E596).keep K612q nin0)
              have f639 := ((pf_F_s_LINKS_name_value.ext E596).keep K612q nin0)
              have f640 := ((pf_A_s_VALUES.ext E596).keep K612q nin0)
              have f641 := ((pf_A_s_NAMES_name_value.ext E596).keep K612q nin0)
              have f642 := ((pf_A_s_ATTRIBUTES_name_value.ext E596).keep K612q nin0)
              have f643 := ((pf_A_s_TYPES_name_value.ext E596).keep K612q nin0)
              have f644 := ((pf_A_s_LINKS_name_value.ext E596).keep K612q nin0)
              have f645 := (hE596.keep K612q)
              have f646 := (hV596.keep K612q nin0)
              have f647 := (hC596.keep K612q nin0)
              have f648 := (f610.keep K612q nin0)
              have f650 := (Nat.le_trans f613 K612q.1)
              obtain ⟨_, _, ⟨T649, L649, k649, n649⟩, -, X649, ⟨Lc649, hQ649, l649, y649, z649⟩, st649⟩ := Jvm.LawKit.callS X612 hx (y := MN11) hown (mvT hZ wo53) (mvT hZ wo54) (mvT hZ wo51) (mvT hZ wo55) (by decide) (backOf (W := 0) (rmNam l Z a0 hw [] sa596 sb596 (0 : Int32) ([]) s_NAMES s_VALUES s_ATTRIBUTES s_TYPES s_LINKS s_NAMES_name s_NAMES_name_value s_ATTRIBUTES_name s_ATTRIBUTES_name_value s_TYPES_name s_TYPES_name_value s_LINKS_name s_LINKS_name_value cs (T612.heap) n0 f650 f618 pf_S_com_example_iskati_iskati_entity_EntityField_NAMES f619 pf_S_com_example_iskati_iskati_entity_EntityField__VALUES f620 pf_S_com_example_iskati_iskati_entity_EntityField_ATTRIBUTES f621 pf_S_com_example_iskati_iskati_entity_EntityField_TYPES f622 pf_S_com_example_iskati_iskati_entity_EntityField_LINKS f623 f624 f625 f626 f627 f628 f629 f630 f631 f632 f633 f634 f635 f636 f637 f638 f639 f640 f641 f642 f643 f644 pf_S_java_lang_String_COMPACT_STRINGS (hcs : ¬ (cs = (0 : Int32))) f645 f646 f647 f648 ((by rfl) : (0 : Int32) = Int32.ofNat [].length) (own_nil : ∀ c ∈ [], ¬ c < 0 ∧ ¬ (255 : Int32) < c) ((Nat.le_of_ble_eq_true rfl) : [].length ≤ 4000)) hZ wo55 wo51 (by decide) (by decide)) (g := (mkF m 212 #[iv p0_0, iv p0_1, iv p0_2, iv p0_3, iv kk, iv md, iv c1, iv c2, rv sa596, .val (own_pk [] s_NAMES s_ATTRIBUTES s_TYPES s_LINKS), .unset] [(.ref sa596)])) rfl (by rw [hml]; rfl) (argsL := [(.ref sa596)]) (rest := []) (lenOf pd_9 rfl) rfl (by show 2 * 0 + _ ≤ _; exact Nat.le_of_eq rfl) (hb hby at_212) (fun _ _ => ⟨rfl, rfl, (by decide : 10 + 1 ≤ _), (by decide : 120 + 4 ≤ _)⟩)
              dsimp only [Pt.U, Pt.locs, Pt.cells, Pt.slots] at X649 l649 y649 z649 st649 hQ649
              rw [l649, y649, z649] at X649
              obtain ⟨rfl, N649q, K649q⟩ := hQ649
              have N651 := Fr.app N614 N649q
              have CS652 : CHr Z consts_1 T612.vm (T612.heap) T612.vm (T649.heap) := (CHr.keep K649q all0 CR616.1)
              have CR653 := CR616.trans CS652
              have K654 : Keep h0 T649.heap [] := (K617).trans K649q all0
              have f655 := (Nat.le_trans (Nat.le_refl T612.heap.size) K649q.1)
              obtain ⟨fs, hr, hrun, hended, -, hW1, hW2, hW3⟩ := X649.leaveW S612 f655 (v := some (.int (1 : Int32))) (fun h => by rw [Bd.returns] at h; cases h)
              refine ⟨_, _, pre595 _ ?_, hrun, hended, _, _, rfl, ?_, hW1, hW2, hW3.mono (by decide) (by decide)⟩
              · show Steps p.tables e below (s₁.setTop (mkF m 157 #[iv p0_0, iv p0_1, iv p0_2, iv p0_3, iv kk, iv md, iv c1, iv c2, .unset, .unset, .unset] [])) _
                refine st596 _ ?_
                show Steps p.tables e below (T596.setTop (mkF m 159 #[iv p0_0, iv p0_1, iv p0_2, iv p0_3, iv kk, iv md, iv c1, iv c2, .unset, .unset, .unset] [(.ref sa596)])) _
                refine XS.astore X596.here hx rfl (hb hby at_159) rfl rfl (l' := #[iv p0_0, iv p0_1, iv p0_2, iv p0_3, iv kk, iv md, iv c1, iv c2, rv sa596, .unset, .unset]) rfl ?_
                show Steps p.tables e below (T596.setTop (mkF m 161 #[iv p0_0, iv p0_1, iv p0_2, iv p0_3, iv kk, iv md, iv c1, iv c2, rv sa596, .unset, .unset] [])) _
                refine XS.goto X596.here hx rfl (pc0 := 161) (pc' := 203) rfl (hb hby at_161) (by decide) (by decide) ?_
                show Steps p.tables e below (T596.setTop (mkF m 203 #[iv p0_0, iv p0_1, iv p0_2, iv p0_3, iv kk, iv md, iv c1, iv c2, rv sa596, .unset, .unset] [])) _
                refine XS.aload X596.here hx rfl (hb hby at_203) rfl rfl ?_
                show Steps p.tables e below (T596.setTop (mkF m 205 #[iv p0_0, iv p0_1, iv p0_2, iv p0_3, iv kk, iv md, iv c1, iv c2, rv sa596, .unset, .unset] [(.ref sa596)])) _
                refine st612.trans ?_
                show Steps p.tables e below (T612.setTop (mkF m 208 #[iv p0_0, iv p0_1, iv p0_2, iv p0_3, iv kk, iv md, iv c1, iv c2, rv sa596, .unset, .unset] [(own_pk [] s_NAMES s_ATTRIBUTES s_TYPES s_LINKS)])) _
                refine XS.astore X612.here hx rfl (hb hby at_208) rfl (own_pkr [] s_NAMES s_ATTRIBUTES s_TYPES s_LINKS) (l' := #[iv p0_0, iv p0_1, iv p0_2, iv p0_3, iv kk, iv md, iv c1, iv c2, rv sa596, .val (own_pk [] s_NAMES s_ATTRIBUTES s_TYPES s_LINKS), .unset]) (storeLocals_cat1 rfl (own_cat (own_pkr [] s_NAMES s_ATTRIBUTES s_TYPES s_LINKS)) (by first | trivial | rfl)) ?_
                show Steps p.tables e below (T612.setTop (mkF m 210 #[iv p0_0, iv p0_1, iv p0_2, iv p0_3, iv kk, iv md, iv c1, iv c2, rv sa596, .val (own_pk [] s_NAMES s_ATTRIBUTES s_TYPES s_LINKS), .unset] [])) _
                refine XS.aload X612.here hx rfl (hb hby at_210) rfl rfl ?_
                show Steps p.tables e below (T612.setTop (mkF m 212 #[iv p0_0, iv p0_1, iv p0_2, iv p0_3, iv kk, iv md, iv c1, iv c2, rv sa596, .val (own_pk [] s_NAMES s_ATTRIBUTES s_TYPES s_LINKS), .unset] [(.ref sa596)])) _
                refine st649 _ ?_
                show Steps p.tables e below (T649.setTop (mkF m 215 #[iv p0_0, iv p0_1, iv p0_2, iv p0_3, iv kk, iv md, iv c1, iv c2, rv sa596, .val (own_pk [] s_NAMES s_ATTRIBUTES s_TYPES s_LINKS), .unset] [(own_pk [] s_NAMES s_ATTRIBUTES s_TYPES s_LINKS)])) _
                refine XS.astore X649.here hx rfl (hb hby at_215) rfl (own_pkr [] s_NAMES s_ATTRIBUTES s_TYPES s_LINKS) (l' := #[iv p0_0, iv p0_1, iv p0_2, iv p0_3, iv kk, iv md, iv c1, iv c2, rv sa596, .val (own_pk [] s_NAMES s_ATTRIBUTES s_TYPES s_LINKS), .val (own_pk [] s_NAMES s_ATTRIBUTES s_TYPES s_LINKS)]) (storeLocals_cat1 rfl (own_cat (own_pkr [] s_NAMES s_ATTRIBUTES s_TYPES s_LINKS)) (by first | trivial | rfl)) ?_
                show Steps p.tables e below (T649.setTop (mkF m 217 #[iv p0_0, iv p0_1, iv p0_2, iv p0_3, iv kk, iv md, iv c1, iv c2, rv sa596, .val (own_pk [] s_NAMES s_ATTRIBUTES s_TYPES s_LINKS), .val (own_pk [] s_NAMES s_ATTRIBUTES s_TYPES s_LINKS)] [])) _
                refine XS.aload X649.here hx rfl (hb hby at_217) rfl (own_pkr [] s_NAMES s_ATTRIBUTES s_TYPES s_LINKS) ?_
                show Steps p.tables e below (T649.setTop (mkF m 219 #[iv p0_0, iv p0_1, iv p0_2, iv p0_3, iv kk, iv md, iv c1, iv c2, rv sa596, .val (own_pk [] s_NAMES s_ATTRIBUTES s_TYPES s_LINKS), .val (own_pk [] s_NAMES s_ATTRIBUTES s_TYPES s_LINKS)] [(own_pk [] s_NAMES s_ATTRIBUTES s_TYPES s_LINKS)])) _
                refine XS.aload X649.here hx rfl (hb hby at_219) rfl (own_pkr [] s_NAMES s_ATTRIBUTES s_TYPES s_LINKS) ?_
                show Steps p.tables e below (T649.setTop (mkF m 221 #[iv p0_0, iv p0_1, iv p0_2, iv p0_3, iv kk, iv md, iv c1, iv c2, rv sa596, .val (own_pk [] s_NAMES s_ATTRIBUTES s_TYPES s_LINKS), .val (own_pk [] s_NAMES s_ATTRIBUTES s_TYPES s_LINKS)] [(own_pk [] s_NAMES s_ATTRIBUTES s_TYPES s_LINKS), (own_pk [] s_NAMES s_ATTRIBUTES s_TYPES s_LINKS)])) _
                refine Jvm.RoadKit.acmp (g := (mkF m 221 #[iv p0_0, iv p0_1, iv p0_2, iv p0_3, iv kk, iv md, iv c1, iv c2, rv sa596, .val (own_pk [] s_NAMES s_ATTRIBUTES s_TYPES s_LINKS), .val (own_pk [] s_NAMES s_ATTRIBUTES s_TYPES s_LINKS)] [(own_pk [] s_NAMES s_ATTRIBUTES s_TYPES s_LINKS), (own_pk [] s_NAMES s_ATTRIBUTES s_TYPES s_LINKS)])) X649 hx rfl (own_pkr [] s_NAMES s_ATTRIBUTES s_TYPES s_LINKS) (own_pkr [] s_NAMES s_ATTRIBUTES s_TYPES s_LINKS) (pc0 := 221) (pc' := 224) (same := true) rfl (hb hby at_221) rfl (decide_eq_true rfl) (by decide) (by decide) ?_
                show Steps p.tables e below (T649.setTop (mkF m 224 #[iv p0_0, iv p0_1, iv p0_2, iv p0_3, iv kk, iv md, iv c1, iv c2, rv sa596, .val (own_pk [] s_NAMES s_ATTRIBUTES s_TYPES s_LINKS), .val (own_pk [] s_NAMES s_ATTRIBUTES s_TYPES s_LINKS)] [])) _
                refine XS.iconst X649.here hx rfl (hb hby at_224) ?_
                show Steps p.tables e below (T649.setTop (mkF m 225 #[iv p0_0, iv p0_1, iv p0_2, iv p0_3, iv kk, iv md, iv c1, iv c2, rv sa596, .val (own_pk [] s_NAMES s_ATTRIBUTES s_TYPES s_LINKS), .val (own_pk [] s_NAMES s_ATTRIBUTES s_TYPES s_LINKS)] [(.int (1 : Int32))])) _
                refine XS.goto X649.here hx rfl (pc0 := 225) (pc' := 229) rfl (hb hby at_225) (by decide) (by decide) ?_
                show Steps p.tables e below (T649.setTop (mkF m 229 #[iv p0_0, iv p0_1, iv p0_2, iv p0_3, iv kk, iv md, iv c1, iv c2, rv sa596, .val (own_pk [] s_NAMES s_ATTRIBUTES s_TYPES s_LINKS), .val (own_pk [] s_NAMES s_ATTRIBUTES s_TYPES s_LINKS)] [(.int (1 : Int32))])) _
                exact retN X649 hx (t := .boolean) Bd.returns (by simp) (hb hby at_229) hr
              · show Q_rm0 Z _ _ _ _ _ _ _ _ _ _ _ _ _ _ _ _ _ _ h0 n0 _ T649.heap _
                exact ⟨rfl, N651, (K654)⟩
            · skip
              have pre657 : ∀ t, Steps p.tables e below (s₁.setTop (mkF m 168 #[iv p0_0, iv p0_1, iv p0_2, iv p0_3, iv kk, iv md, iv c1, iv c2, .unset, .unset, .unset] [(.int (6 : Int32)), (.int md)])) t → Steps p.tables e below (s₁.setTop (entryFrame m #[(.int p0_0), (.int p0_1), (.int p0_2), (.int p0_3)] maxLocals)) t := by
                intro t_ k_
                refine pre594 _ ?_
                show Steps p.tables e below (s₁.setTop (mkF m 154 #[iv p0_0, iv p0_1, iv p0_2, iv p0_3, iv kk, iv md, iv c1, iv c2, .unset, .unset, .unset] [(.int (5 : Int32)), (.int md)])) _
                refine XS.icmpYes X0.here hx rfl (pc0 := 154) (pc' := 164) rfl (hb hby at_154) rfl (feq hc154_593).2 (by decide) (by decide) ?_
                show Steps p.tables e below (s₁.setTop (mkF m 164 #[iv p0_0, iv p0_1, iv p0_2, iv p0_3, iv kk, iv md, iv c1, iv c2, .unset, .unset, .unset] [])) _
                refine XS.iload X0.here hx rfl (hb hby at_164) rfl ?_
                show Steps p.tables e below (s₁.setTop (mkF m 166 #[iv p0_0, iv p0_1, iv p0_2, iv p0_3, iv kk, iv md, iv c1, iv c2, .unset, .unset, .unset] [(.int md)])) _
                refine XS.bipush X0.here hx rfl (hb hby at_166) ?_
                exact k_
              by_cases hc168_656 : md = (6 : Int32)
              · skip
                obtain ⟨_, _, ⟨T658, L658, k658, n658⟩, -, X658, ⟨Lc658, hQ658, l658, y658, z658⟩, st658⟩ := Jvm.LawKit.callS X0 hx (y := MN14) hown (mvT hZ wo83) (mvT hZ wo84) (mvT hZ wo2) (mvT hZ wo85) (by decide) (backOf (W := 0) (rm14 l Z a0 hw [] c1 cs h0 n0 Z0 pf_O pf_S_java_lang_String_COMPACT_STRINGS (hcs : ¬ (cs = (0 : Int32))) (hrc1 : ¬ c1 < 0 ∧ ¬ (255 : Int32) < c1)) hZ wo85 wo2 (by decide) (by decide)) (g := (mkF m 173 #[iv p0_0, iv p0_1, iv p0_2, iv p0_3, iv kk, iv md, iv c1, iv c2, .unset, .unset, .unset] [(.int c1)])) rfl (by rw [hml]; rfl) (argsL := [(.int c1)]) (rest := []) (lenOf pd_3 rfl) rfl (by show 2 * 0 + _ ≤ _; exact Nat.le_of_eq rfl) (hb hby at_173) (fun _ _ => ⟨rfl, e0, (by decide : 0 + 2 ≤ _), (by decide : 0 + 5 ≤ _)⟩)
                dsimp only [Pt.U, Pt.locs, Pt.cells, Pt.slots] at X658 l658 y658 z658 st658 hQ658
                rw [l658, y658, z658] at X658
                obtain ⟨r_658, b_658, rfl, N658q, K658q, hq658_0, hq658_1, hq658_2, hq658_3, hq658_4⟩ := hQ658
                have N659 := Fr.app N0 N658q
                have ne660 : s_NAMES ≠ r_658 := Nat.ne_of_lt (Nat.lt_of_lt_of_le pf_E_s_NAMES.lt hq658_0)
                have ne661 : s_VALUES ≠ r_658 := Nat.ne_of_lt (Nat.lt_of_lt_of_le pf_E_s_VALUES.lt hq658_0)
                have ne662 : s_ATTRIBUTES ≠ r_658 := Nat.ne_of_lt (Nat.lt_of_lt_of_le pf_E_s_ATTRIBUTES.lt hq658_0)
                have ne663 : s_TYPES ≠ r_658 := Nat.ne_of_lt (Nat.lt_of_lt_of_le pf_E_s_TYPES.lt hq658_0)
                have ne664 : s_LINKS ≠ r_658 := Nat.ne_of_lt (Nat.lt_of_lt_of_le pf_E_s_LINKS.lt hq658_0)
                have ne665 : s_NAMES_name ≠ r_658 := Nat.ne_of_lt (Nat.lt_of_lt_of_le pf_E_s_NAMES_name.lt hq658_0)
                have ne666 : s_ATTRIBUTES_name ≠ r_658 := Nat.ne_of_lt (Nat.lt_of_lt_of_le pf_E_s_ATTRIBUTES_name.lt hq658_0)
                have ne667 : s_TYPES_name ≠ r_658 := Nat.ne_of_lt (Nat.lt_of_lt_of_le pf_E_s_TYPES_name.lt hq658_0)
                have ne668 : s_LINKS_name ≠ r_658 := Nat.ne_of_lt (Nat.lt_of_lt_of_le pf_E_s_LINKS_name.lt hq658_0)
                have ne669 : s_NAMES_name_value ≠ r_658 := Nat.ne_of_lt (Nat.lt_of_lt_of_le pf_A_s_NAMES_name_value.lt hq658_0)
                have ne670 : s_ATTRIBUTES_name_value ≠ r_658 := Nat.ne_of_lt (Nat.lt_of_lt_of_le pf_A_s_ATTRIBUTES_name_value.lt hq658_0)
                have ne671 : s_TYPES_name_value ≠ r_658 := Nat.ne_of_lt (Nat.lt_of_lt_of_le pf_A_s_TYPES_name_value.lt hq658_0)
                have ne672 : s_LINKS_name_value ≠ r_658 := Nat.ne_of_lt (Nat.lt_of_lt_of_le pf_A_s_LINKS_name_value.lt hq658_0)
                have g673 : n0 ≤ r_658 := Nat.le_trans Z0 hq658_0
                have bz674 : h0.size ≤ r_658 := Nat.le_trans (Keep.refl h0 []).1 hq658_0
                have CS675 : CHr Z consts_1 s.vm h0 s.vm (T658.heap) := (CHr.keep K658q all0 CR0.1)
                have CR676 := CR0.trans CS675
                have K677 : Keep h0 T658.heap [] := (Keep.refl h0 []).trans K658q all0
                have f678 := (pf_O.keep K658q all0)
                have f680 := (Nat.le_trans Z0 K658q.1)
                have hZ679 := hZ
                have hown679 := hown
                obtain ⟨_, _, ⟨T679, L679, k679, n679⟩, -, X679, Sp679, Gp679, ⟨Lc679, hQ679, l679, y679, z679, cc679⟩, st679⟩ := callSS X658 hx (y := MN8) hown (mvT hZ wo34) (mvT hZ wo35) (mvT hZ wo5) (mvT hZ wo36) (by decide) (backOfSH (s := s) (vm0 := s.vm) (W := 0) (rmExp l Z a0 hw [] r_658 b_658 (1 : Int32) ([c1]) s_NAMES s_ATTRIBUTES s_TYPES s_LINKS cs (T658.heap) n0 f680 f678 pf_S_com_example_iskati_iskati_entity_EntityField_NAMES pf_S_com_example_iskati_iskati_entity_EntityField_ATTRIBUTES pf_S_com_example_iskati_iskati_entity_EntityField_TYPES pf_S_com_example_iskati_iskati_entity_EntityField_LINKS pf_S_java_lang_String_COMPACT_STRINGS (hcs : ¬ (cs = (0 : Int32))) hq658_1 hq658_2 hq658_3 hq658_4 ((by rfl) : (1 : Int32) = Int32.ofNat [c1].length) (own_one hrc1 : ∀ c ∈ [c1], ¬ c < 0 ∧ ¬ (255 : Int32) < c) ((Nat.le_of_ble_eq_true rfl) : [c1].length ≤ 4000)) hZ wo36 wo5 (by decide) (by decide) hEL CR676.1) (g := (mkF m 205 #[iv p0_0, iv p0_1, iv p0_2, iv p0_3, iv kk, iv md, iv c1, iv c2, rv r_658, .unset, .unset] [(.ref r_658)])) rfl (by rw [hml]; rfl) (argsL := [(.ref r_658)]) (rest := []) (lenOf pd_9 rfl) rfl (by show 2 * 0 + _ ≤ _; exact Nat.le_of_eq rfl) (hb hby at_205) (fun _ _ => ⟨rfl, rfl, (by decide : 2 + 8 ≤ _), (by decide : 5 + 116 ≤ _)⟩)
                dsimp only [Pt.U, Pt.locs, Pt.cells, Pt.slots] at X679 l679 y679 z679 st679 hQ679 Sp679 Gp679 cc679
                rw [l679, y679, z679] at X679
                obtain ⟨X679, S679, hZ, hown⟩ := rebS (s := s) (vm0 := s.vm) (Z := Z) (own := "com/example/iskati/iskati/entity/EntityFieldNamedPinLaw") ((State.WarmedH.refl s).since 0) (Nat.zero_le _) X679 Sp679 Gp679 hZ hown
                obtain ⟨rfl, N679q, K679q⟩ := hQ679
                have N681 := Fr.app N659 N679q
                have CS682 : CHr Z consts_1 s.vm (T658.heap) T679.vm (T679.heap) := cc679
                have CR683 := CR676.trans CS682
                have K684 : Keep h0 T679.heap [] := (K677).trans K679q all0
                have f685 := (f678.keep K679q all0)
                have f686 := ((pf_E_s_NAMES.keep K658q).keep K679q)
                have f687 := ((pf_E_s_VALUES.keep K658q).keep K679q)
                have f688 := ((pf_E_s_ATTRIBUTES.keep K658q).keep K679q)
                have f689 := ((pf_E_s_TYPES.keep K658q).keep K679q)
                have f690 := ((pf_E_s_LINKS.keep K658q).keep K679q)
                have f691 := ((pf_F_s_NAMES_name.keep K658q nin0).keep K679q nin0)
                have f692 := ((pf_E_s_NAMES_name.keep K658q).keep K679q)
                have f693 := ((pf_F_s_NAMES_name_coder.keep K658q nin0).keep K679q nin0)
                have f694 := ((pf_F_s_NAMES_name_value.keep K658q nin0).keep K679q nin0)
                have f695 := ((pf_F_s_ATTRIBUTES_name.keep K658q nin0).keep K679q nin0)
                have f696 := ((pf_E_s_ATTRIBUTES_name.keep K658q).keep K679q)
                have f697 := ((pf_F_s_ATTRIBUTES_name_coder.keep K658q nin0).keep K679q nin0)
                have f698 := ((pf_F_s_ATTRIBUTES_name_value.keep K658q nin0).keep K679q nin0)
                have f699 := ((pf_F_s_TYPES_name.keep K658q nin0).keep K679q nin0)
                have f700 := ((pf_E_s_TYPES_name.keep K658q).keep K679q)
                have f701 := ((pf_F_s_TYPES_name_coder.keep K658q nin0).keep K679q nin0)
                have f702 := ((pf_F_s_TYPES_name_value.keep K658q nin0).keep K679q nin0)
                have f703 := ((pf_F_s_LINKS_name.keep K658q nin0).keep K679q nin0)
                have f704 := ((pf_E_s_LINKS_name.keep K658q).keep K679q)
                have f705 := ((pf_F_s_LINKS_name_coder.keep K658q nin0).keep K679q nin0)
                have f706 := ((pf_F_s_LINKS_name_value.keep K658q nin0).keep K679q nin0)
                have f707 := ((pf_A_s_VALUES.keep K658q nin0).keep K679q nin0)
                have f708 := ((pf_A_s_NAMES_name_value.keep K658q nin0).keep K679q nin0)
                have f709 := ((pf_A_s_ATTRIBUTES_name_value.keep K658q nin0).keep K679q nin0)
                have f710 := ((pf_A_s_TYPES_name_value.keep K658q nin0).keep K679q nin0)
                have f711 := ((pf_A_s_LINKS_name_value.keep K658q nin0).keep K679q nin0)
                have f712 := (hq658_1.keep K679q)
                have f713 := (hq658_2.keep K679q nin0)
                have f714 := (hq658_3.keep K679q nin0)
                have f715 := (hq658_4.keep K679q nin0)
                have f717 := (Nat.le_trans f680 K679q.1)
                obtain ⟨_, _, ⟨T716, L716, k716, n716⟩, -, X716, ⟨Lc716, hQ716, l716, y716, z716⟩, st716⟩ := Jvm.LawKit.callS X679 hx (y := MN11) hown (mvT hZ wo53) (mvT hZ wo54) (mvT hZ wo51) (mvT hZ wo55) (by decide) (backOf (W := 0) (rmNam l Z a0 hw [] r_658 b_658 (1 : Int32) ([c1]) s_NAMES s_VALUES s_ATTRIBUTES s_TYPES s_LINKS s_NAMES_name s_NAMES_name_value s_ATTRIBUTES_name s_ATTRIBUTES_name_value s_TYPES_name s_TYPES_name_value s_LINKS_name s_LINKS_name_value cs (T679.heap) n0 f717 f685 pf_S_com_example_iskati_iskati_entity_EntityField_NAMES f686 pf_S_com_example_iskati_iskati_entity_EntityField__VALUES f687 pf_S_com_example_iskati_iskati_entity_EntityField_ATTRIBUTES f688 pf_S_com_example_iskati_iskati_entity_EntityField_TYPES f689 pf_S_com_example_iskati_iskati_entity_EntityField_LINKS f690 f691 f692 f693 f694 f695 f696 f697 f698 f699 f700 f701 f702 f703 f704 f705 f706 f707 f708 f709 f710 f711 pf_S_java_lang_String_COMPACT_STRINGS (hcs : ¬ (cs = (0 : Int32))) f712 f713 f714 f715 ((by rfl) : (1 : Int32) = Int32.ofNat [c1].length) (own_one hrc1 : ∀ c ∈ [c1], ¬ c < 0 ∧ ¬ (255 : Int32) < c) ((Nat.le_of_ble_eq_true rfl) : [c1].length ≤ 4000)) hZ wo55 wo51 (by decide) (by decide)) (g := (mkF m 212 #[iv p0_0, iv p0_1, iv p0_2, iv p0_3, iv kk, iv md, iv c1, iv c2, rv r_658, .val (own_pk [c1] s_NAMES s_ATTRIBUTES s_TYPES s_LINKS), .unset] [(.ref r_658)])) rfl (by rw [hml]; rfl) (argsL := [(.ref r_658)]) (rest := []) (lenOf pd_9 rfl) rfl (by show 2 * 0 + _ ≤ _; exact Nat.le_of_eq rfl) (hb hby at_212) (fun _ _ => ⟨rfl, rfl, (by decide : 10 + 1 ≤ _), (by decide : 121 + 4 ≤ _)⟩)
                dsimp only [Pt.U, Pt.locs, Pt.cells, Pt.slots] at X716 l716 y716 z716 st716 hQ716
                rw [l716, y716, z716] at X716
                obtain ⟨rfl, N716q, K716q⟩ := hQ716
                have N718 := Fr.app N681 N716q
                have CS719 : CHr Z consts_1 T679.vm (T679.heap) T679.vm (T716.heap) := (CHr.keep K716q all0 CR683.1)
                have CR720 := CR683.trans CS719
                have K721 : Keep h0 T716.heap [] := (K684).trans K716q all0
                have f722 := (Nat.le_trans (Nat.le_refl T679.heap.size) K716q.1)
                obtain ⟨fs, hr, hrun, hended, -, hW1, hW2, hW3⟩ := X716.leaveW S679 f722 (v := some (.int (1 : Int32))) (fun h => by rw [Bd.returns] at h; cases h)
                refine ⟨_, _, pre657 _ ?_, hrun, hended, _, _, rfl, ?_, hW1, hW2, hW3.mono (by decide) (by decide)⟩
                · show Steps p.tables e below (s₁.setTop (mkF m 168 #[iv p0_0, iv p0_1, iv p0_2, iv p0_3, iv kk, iv md, iv c1, iv c2, .unset, .unset, .unset] [(.int (6 : Int32)), (.int md)])) _
                  refine XS.icmpNo X0.here hx rfl (hb hby at_168) rfl (teq hc168_656).2 ?_
                  show Steps p.tables e below (s₁.setTop (mkF m 171 #[iv p0_0, iv p0_1, iv p0_2, iv p0_3, iv kk, iv md, iv c1, iv c2, .unset, .unset, .unset] [])) _
                  refine XS.iload X0.here hx rfl (hb hby at_171) rfl ?_
                  show Steps p.tables e below (s₁.setTop (mkF m 173 #[iv p0_0, iv p0_1, iv p0_2, iv p0_3, iv kk, iv md, iv c1, iv c2, .unset, .unset, .unset] [(.int c1)])) _
                  refine st658 _ ?_
                  show Steps p.tables e below (T658.setTop (mkF m 176 #[iv p0_0, iv p0_1, iv p0_2, iv p0_3, iv kk, iv md, iv c1, iv c2, .unset, .unset, .unset] [(.ref r_658)])) _
                  refine XS.astore X658.here hx rfl (hb hby at_176) rfl rfl (l' := #[iv p0_0, iv p0_1, iv p0_2, iv p0_3, iv kk, iv md, iv c1, iv c2, rv r_658, .unset, .unset]) rfl ?_
                  show Steps p.tables e below (T658.setTop (mkF m 178 #[iv p0_0, iv p0_1, iv p0_2, iv p0_3, iv kk, iv md, iv c1, iv c2, rv r_658, .unset, .unset] [])) _
                  refine XS.goto X658.here hx rfl (pc0 := 178) (pc' := 203) rfl (hb hby at_178) (by decide) (by decide) ?_
                  show Steps p.tables e below (T658.setTop (mkF m 203 #[iv p0_0, iv p0_1, iv p0_2, iv p0_3, iv kk, iv md, iv c1, iv c2, rv r_658, .unset, .unset] [])) _
                  refine XS.aload X658.here hx rfl (hb hby at_203) rfl rfl ?_
                  show Steps p.tables e below (T658.setTop (mkF m 205 #[iv p0_0, iv p0_1, iv p0_2, iv p0_3, iv kk, iv md, iv c1, iv c2, rv r_658, .unset, .unset] [(.ref r_658)])) _
                  refine st679.trans ?_
                  show Steps p.tables e below (T679.setTop (mkF m 208 #[iv p0_0, iv p0_1, iv p0_2, iv p0_3, iv kk, iv md, iv c1, iv c2, rv r_658, .unset, .unset] [(own_pk [c1] s_NAMES s_ATTRIBUTES s_TYPES s_LINKS)])) _
                  refine XS.astore X679.here hx rfl (hb hby at_208) rfl (own_pkr [c1] s_NAMES s_ATTRIBUTES s_TYPES s_LINKS) (l' := #[iv p0_0, iv p0_1, iv p0_2, iv p0_3, iv kk, iv md, iv c1, iv c2, rv r_658, .val (own_pk [c1] s_NAMES s_ATTRIBUTES s_TYPES s_LINKS), .unset]) (storeLocals_cat1 rfl (own_cat (own_pkr [c1] s_NAMES s_ATTRIBUTES s_TYPES s_LINKS)) (by first | trivial | rfl)) ?_
                  show Steps p.tables e below (T679.setTop (mkF m 210 #[iv p0_0, iv p0_1, iv p0_2, iv p0_3, iv kk, iv md, iv c1, iv c2, rv r_658, .val (own_pk [c1] s_NAMES s_ATTRIBUTES s_TYPES s_LINKS), .unset] [])) _
                  refine XS.aload X679.here hx rfl (hb hby at_210) rfl rfl ?_
                  show Steps p.tables e below (T679.setTop (mkF m 212 #[iv p0_0, iv p0_1, iv p0_2, iv p0_3, iv kk, iv md, iv c1, iv c2, rv r_658, .val (own_pk [c1] s_NAMES s_ATTRIBUTES s_TYPES s_LINKS), .unset] [(.ref r_658)])) _
                  refine st716 _ ?_
                  show Steps p.tables e below (T716.setTop (mkF m 215 #[iv p0_0, iv p0_1, iv p0_2, iv p0_3, iv kk, iv md, iv c1, iv c2, rv r_658, .val (own_pk [c1] s_NAMES s_ATTRIBUTES s_TYPES s_LINKS), .unset] [(own_pk [c1] s_NAMES s_ATTRIBUTES s_TYPES s_LINKS)])) _
                  refine XS.astore X716.here hx rfl (hb hby at_215) rfl (own_pkr [c1] s_NAMES s_ATTRIBUTES s_TYPES s_LINKS) (l' := #[iv p0_0, iv p0_1, iv p0_2, iv p0_3, iv kk, iv md, iv c1, iv c2, rv r_658, .val (own_pk [c1] s_NAMES s_ATTRIBUTES s_TYPES s_LINKS), .val (own_pk [c1] s_NAMES s_ATTRIBUTES s_TYPES s_LINKS)]) (storeLocals_cat1 rfl (own_cat (own_pkr [c1] s_NAMES s_ATTRIBUTES s_TYPES s_LINKS)) (by first | trivial | rfl)) ?_
                  show Steps p.tables e below (T716.setTop (mkF m 217 #[iv p0_0, iv p0_1, iv p0_2, iv p0_3, iv kk, iv md, iv c1, iv c2, rv r_658, .val (own_pk [c1] s_NAMES s_ATTRIBUTES s_TYPES s_LINKS), .val (own_pk [c1] s_NAMES s_ATTRIBUTES s_TYPES s_LINKS)] [])) _
                  refine XS.aload X716.here hx rfl (hb hby at_217) rfl (own_pkr [c1] s_NAMES s_ATTRIBUTES s_TYPES s_LINKS) ?_
                  show Steps p.tables e below (T716.setTop (mkF m 219 #[iv p0_0, iv p0_1, iv p0_2, iv p0_3, iv kk, iv md, iv c1, iv c2, rv r_658, .val (own_pk [c1] s_NAMES s_ATTRIBUTES s_TYPES s_LINKS), .val (own_pk [c1] s_NAMES s_ATTRIBUTES s_TYPES s_LINKS)] [(own_pk [c1] s_NAMES s_ATTRIBUTES s_TYPES s_LINKS)])) _
                  refine XS.aload X716.here hx rfl (hb hby at_219) rfl (own_pkr [c1] s_NAMES s_ATTRIBUTES s_TYPES s_LINKS) ?_
                  show Steps p.tables e below (T716.setTop (mkF m 221 #[iv p0_0, iv p0_1, iv p0_2, iv p0_3, iv kk, iv md, iv c1, iv c2, rv r_658, .val (own_pk [c1] s_NAMES s_ATTRIBUTES s_TYPES s_LINKS), .val (own_pk [c1] s_NAMES s_ATTRIBUTES s_TYPES s_LINKS)] [(own_pk [c1] s_NAMES s_ATTRIBUTES s_TYPES s_LINKS), (own_pk [c1] s_NAMES s_ATTRIBUTES s_TYPES s_LINKS)])) _
                  refine Jvm.RoadKit.acmp (g := (mkF m 221 #[iv p0_0, iv p0_1, iv p0_2, iv p0_3, iv kk, iv md, iv c1, iv c2, rv r_658, .val (own_pk [c1] s_NAMES s_ATTRIBUTES s_TYPES s_LINKS), .val (own_pk [c1] s_NAMES s_ATTRIBUTES s_TYPES s_LINKS)] [(own_pk [c1] s_NAMES s_ATTRIBUTES s_TYPES s_LINKS), (own_pk [c1] s_NAMES s_ATTRIBUTES s_TYPES s_LINKS)])) X716 hx rfl (own_pkr [c1] s_NAMES s_ATTRIBUTES s_TYPES s_LINKS) (own_pkr [c1] s_NAMES s_ATTRIBUTES s_TYPES s_LINKS) (pc0 := 221) (pc' := 224) (same := true) rfl (hb hby at_221) rfl (decide_eq_true rfl) (by decide) (by decide) ?_
                  show Steps p.tables e below (T716.setTop (mkF m 224 #[iv p0_0, iv p0_1, iv p0_2, iv p0_3, iv kk, iv md, iv c1, iv c2, rv r_658, .val (own_pk [c1] s_NAMES s_ATTRIBUTES s_TYPES s_LINKS), .val (own_pk [c1] s_NAMES s_ATTRIBUTES s_TYPES s_LINKS)] [])) _
                  refine XS.iconst X716.here hx rfl (hb hby at_224) ?_
                  show Steps p.tables e below (T716.setTop (mkF m 225 #[iv p0_0, iv p0_1, iv p0_2, iv p0_3, iv kk, iv md, iv c1, iv c2, rv r_658, .val (own_pk [c1] s_NAMES s_ATTRIBUTES s_TYPES s_LINKS), .val (own_pk [c1] s_NAMES s_ATTRIBUTES s_TYPES s_LINKS)] [(.int (1 : Int32))])) _
                  refine XS.goto X716.here hx rfl (pc0 := 225) (pc' := 229) rfl (hb hby at_225) (by decide) (by decide) ?_
                  show Steps p.tables e below (T716.setTop (mkF m 229 #[iv p0_0, iv p0_1, iv p0_2, iv p0_3, iv kk, iv md, iv c1, iv c2, rv r_658, .val (own_pk [c1] s_NAMES s_ATTRIBUTES s_TYPES s_LINKS), .val (own_pk [c1] s_NAMES s_ATTRIBUTES s_TYPES s_LINKS)] [(.int (1 : Int32))])) _
                  exact retN X716 hx (t := .boolean) Bd.returns (by simp) (hb hby at_229) hr
                · show Q_rm0 Z _ _ _ _ _ _ _ _ _ _ _ _ _ _ _ _ _ _ h0 n0 _ T716.heap _
                  exact ⟨rfl, N718, (K721)⟩
              · skip
                obtain ⟨T723, h723, X723, e723, E723, A723, D723, -, st723⟩ := newO X0 hx hZ hown wo0 wo1 wo2 e0 (g := (mkF m 181 #[iv p0_0, iv p0_1, iv p0_2, iv p0_3, iv kk, iv md, iv c1, iv c2, .unset, .unset, .unset] [])) rfl (hb hby at_181) (by decide) (by decide)
                obtain ⟨b723, gg723⟩ : ∃ z, z = h0.size := ⟨_, rfl⟩
                rw [← gg723] at A723 D723 st723
                have ne724 : s_NAMES ≠ b723 := Nat.ne_of_lt (Nat.lt_of_lt_of_le pf_E_s_NAMES.lt (Nat.le_of_eq gg723.symm))
                have ne725 : s_VALUES ≠ b723 := Nat.ne_of_lt (Nat.lt_of_lt_of_le pf_E_s_VALUES.lt (Nat.le_of_eq gg723.symm))
                have ne726 : s_ATTRIBUTES ≠ b723 := Nat.ne_of_lt (Nat.lt_of_lt_of_le pf_E_s_ATTRIBUTES.lt (Nat.le_of_eq gg723.symm))
                have ne727 : s_TYPES ≠ b723 := Nat.ne_of_lt (Nat.lt_of_lt_of_le pf_E_s_TYPES.lt (Nat.le_of_eq gg723.symm))
                have ne728 : s_LINKS ≠ b723 := Nat.ne_of_lt (Nat.lt_of_lt_of_le pf_E_s_LINKS.lt (Nat.le_of_eq gg723.symm))
                have ne729 : s_NAMES_name ≠ b723 := Nat.ne_of_lt (Nat.lt_of_lt_of_le pf_E_s_NAMES_name.lt (Nat.le_of_eq gg723.symm))
                have ne730 : s_ATTRIBUTES_name ≠ b723 := Nat.ne_of_lt (Nat.lt_of_lt_of_le pf_E_s_ATTRIBUTES_name.lt (Nat.le_of_eq gg723.symm))
                have ne731 : s_TYPES_name ≠ b723 := Nat.ne_of_lt (Nat.lt_of_lt_of_le pf_E_s_TYPES_name.lt (Nat.le_of_eq gg723.symm))
                have ne732 : s_LINKS_name ≠ b723 := Nat.ne_of_lt (Nat.lt_of_lt_of_le pf_E_s_LINKS_name.lt (Nat.le_of_eq gg723.symm))
                have ne733 : s_NAMES_name_value ≠ b723 := Nat.ne_of_lt (Nat.lt_of_lt_of_le pf_A_s_NAMES_name_value.lt (Nat.le_of_eq gg723.symm))
                have ne734 : s_ATTRIBUTES_name_value ≠ b723 := Nat.ne_of_lt (Nat.lt_of_lt_of_le pf_A_s_ATTRIBUTES_name_value.lt (Nat.le_of_eq gg723.symm))
                have ne735 : s_TYPES_name_value ≠ b723 := Nat.ne_of_lt (Nat.lt_of_lt_of_le pf_A_s_TYPES_name_value.lt (Nat.le_of_eq gg723.symm))
                have ne736 : s_LINKS_name_value ≠ b723 := Nat.ne_of_lt (Nat.lt_of_lt_of_le pf_A_s_LINKS_name_value.lt (Nat.le_of_eq gg723.symm))
                have g737 : n0 ≤ b723 := Nat.le_trans Z0 (Nat.le_of_eq gg723.symm)
                have bz738 : h0.size ≤ b723 := Nat.le_trans (Keep.refl h0 []).1 (Nat.le_of_eq gg723.symm)
                have CS739 : CHr Z consts_1 s.vm h0 s.vm h723 := (CHr.ext E723 CR0.1)
                have CR740 := CR0.trans CS739
                have K741 : Keep h0 h723 [] := (Keep.refl h0 []).ext E723
                have f742 : Fld Z h723 b723 "java/lang/String" "coder" "B" (.int (0 : Int32)) := D723 (Or.inr wo31) (ty := .byte) (by decide)
                have f743 : Fld Z h723 b723 "java/lang/String" "value" "[B" .null := D723 (Or.inr wo33) (ty := (.array .byte)) (by decide)
                obtain ⟨T744, h744, k744, X744, e744, E744, A744, st744⟩ := newP (aty := .char) X723 hx hZ wo7 e723 (g := (mkF m 186 #[iv p0_0, iv p0_1, iv p0_2, iv p0_3, iv kk, iv md, iv c1, iv c2, .unset, .unset, .unset] [(.int (2 : Int32)), (.ref b723), (.ref b723)])) rfl (hb hby at_186) rfl (by decide) (cap := 2) (by decide) (by decide) (by decide) (by decide)
                obtain ⟨b744, gg744⟩ : ∃ z, z = h723.size := ⟨_, rfl⟩
                rw [← gg744] at A744 st744
                have f745 := (pf_E_s_NAMES.ext E723)
                have ne746 : s_NAMES ≠ b744 := Nat.ne_of_lt (Nat.lt_of_lt_of_le f745.lt (Nat.le_of_eq gg744.symm))
                have f747 := (pf_E_s_VALUES.ext E723)
                have ne748 : s_VALUES ≠ b744 := Nat.ne_of_lt (Nat.lt_of_lt_of_le f747.lt (Nat.le_of_eq gg744.symm))
                have f749 := (pf_E_s_ATTRIBUTES.ext E723)
                have ne750 : s_ATTRIBUTES ≠ b744 := Nat.ne_of_lt (Nat.lt_of_lt_of_le f749.lt (Nat.le_of_eq gg744.symm))
                have f751 := (pf_E_s_TYPES.ext E723)
                have ne752 : s_TYPES ≠ b744 := Nat.ne_of_lt (Nat.lt_of_lt_of_le f751.lt (Nat.le_of_eq gg744.symm))
                have f753 := (pf_E_s_LINKS.ext E723)
                have ne754 : s_LINKS ≠ b744 := Nat.ne_of_lt (Nat.lt_of_lt_of_le f753.lt (Nat.le_of_eq gg744.symm))
                have f755 := (pf_E_s_NAMES_name.ext E723)
                have ne756 : s_NAMES_name ≠ b744 := Nat.ne_of_lt (Nat.lt_of_lt_of_le f755.lt (Nat.le_of_eq gg744.symm))
                have f757 := (pf_E_s_ATTRIBUTES_name.ext E723)
                have ne758 : s_ATTRIBUTES_name ≠ b744 := Nat.ne_of_lt (Nat.lt_of_lt_of_le f757.lt (Nat.le_of_eq gg744.symm))
                have f759 := (pf_E_s_TYPES_name.ext E723)
                have ne760 : s_TYPES_name ≠ b744 := Nat.ne_of_lt (Nat.lt_of_lt_of_le f759.lt (Nat.le_of_eq gg744.symm))
                have f761 := (pf_E_s_LINKS_name.ext E723)
                have ne762 : s_LINKS_name ≠ b744 := Nat.ne_of_lt (Nat.lt_of_lt_of_le f761.lt (Nat.le_of_eq gg744.symm))
                have f763 := (pf_A_s_NAMES_name_value.ext E723)
                have ne764 : s_NAMES_name_value ≠ b744 := Nat.ne_of_lt (Nat.lt_of_lt_of_le f763.lt (Nat.le_of_eq gg744.symm))
                have f765 := (pf_A_s_ATTRIBUTES_name_value.ext E723)
                have ne766 : s_ATTRIBUTES_name_value ≠ b744 := Nat.ne_of_lt (Nat.lt_of_lt_of_le f765.lt (Nat.le_of_eq gg744.symm))
                have f767 := (pf_A_s_TYPES_name_value.ext E723)
                have ne768 : s_TYPES_name_value ≠ b744 := Nat.ne_of_lt (Nat.lt_of_lt_of_le f767.lt (Nat.le_of_eq gg744.symm))
                have f769 := (pf_A_s_LINKS_name_value.ext E723)
                have ne770 : s_LINKS_name_value ≠ b744 := Nat.ne_of_lt (Nat.lt_of_lt_of_le f769.lt (Nat.le_of_eq gg744.symm))
                have ne771 : b723 ≠ b744 := Nat.ne_of_lt (Nat.lt_of_lt_of_le A723.lt (Nat.le_of_eq gg744.symm))
                have f773 := (Nat.le_trans Z0 E723.1)
                have g772 : n0 ≤ b744 := Nat.le_trans f773 (Nat.le_of_eq gg744.symm)
                have bz774 : h0.size ≤ b744 := Nat.le_trans (K741).1 (Nat.le_of_eq gg744.symm)
                have CS776 : CHr Z consts_1 s.vm h723 s.vm h744 := (CHr.ext E744 CR740.1)
                have CR777 := CR740.trans CS776
                have K778 : Keep h0 h744 [] := (K741).ext E744
                have f775 : Av Z h744 b744 .char (2 : Int32) [(.int (0 : Int32)), (.int (0 : Int32))] (.int (0 : Int32)) := ⟨_, (Arv.new A744 (by decide)).pad (pad_rep [] (.int (0 : Int32)) 2)⟩
                obtain ⟨kk779, cl779, Ar779, qq779, Sz779, Nn779, Hs779, Gf779⟩ := id f775
                have hin780 : ¬ ((0 : Int32) < 0 ∨ cl779.slots.size ≤ ((0 : Int32)).toNatClampNeg) := inb_of Sz779 ⟨by decide, by decide⟩
                obtain ⟨T781, h781, X781, e781, W781, st781⟩ := stC X744 hx hZ e744 Ar779 (j := (0 : Int32)) hin780 (g := (mkF m 192 #[iv p0_0, iv p0_1, iv p0_2, iv p0_3, iv kk, iv md, iv c1, iv c2, .unset, .unset, .unset] [(.int c1), (.int (0 : Int32)), (.ref b744), (.ref b744), (.ref b723), (.ref b723)])) rfl rfl (hb hby at_192)
                have CS782 : CHr Z consts_1 s.vm h744 s.vm h781 := (CHr.wr W781 (own_safeAv hZ.alike f775 (by decide)) CR777.1)
                have CR783 := CR777.trans CS782
                have K784 : Keep h0 h781 [] := (K778).wr W781 (Or.inr bz774)
                have f785 : Av Z h781 b744 .char (2 : Int32) [(.int (nar .char c1)), (.int (0 : Int32))] (.int (0 : Int32)) := ⟨_, Arv.set Ar779 qq779 Sz779 Nn779 Hs779 Gf779 (by first | rfl | exact fits_nar_char _) W781 0 rfl (Nat.le_of_ble_eq_true rfl)⟩
                have N786 := Fr.snoc X781 N0 g772
                obtain ⟨kk787, cl787, Ar787, qq787, Sz787, Nn787, Hs787, Gf787⟩ := id f785
                have hin788 : ¬ ((1 : Int32) < 0 ∨ cl787.slots.size ≤ ((1 : Int32)).toNatClampNeg) := inb_of Sz787 ⟨by decide, by decide⟩
                obtain ⟨T789, h789, X789, e789, W789, st789⟩ := stC X781 hx hZ e781 Ar787 (j := (1 : Int32)) hin788 (g := (mkF m 197 #[iv p0_0, iv p0_1, iv p0_2, iv p0_3, iv kk, iv md, iv c1, iv c2, .unset, .unset, .unset] [(.int c2), (.int (1 : Int32)), (.ref b744), (.ref b744), (.ref b723), (.ref b723)])) rfl rfl (hb hby at_197)
                have CS790 : CHr Z consts_1 s.vm h781 s.vm h789 := (CHr.wr W789 (own_safeAv hZ.alike f785 (by decide)) CR783.1)
                have CR791 := CR783.trans CS790
                have K792 : Keep h0 h789 [] := (K784).wr W789 (Or.inr bz774)
                have f793 : Av Z h789 b744 .char (2 : Int32) [(.int (nar .char c1)), (.int (nar .char c2))] (.int (0 : Int32)) := ⟨_, Arv.set Ar787 qq787 Sz787 Nn787 Hs787 Gf787 (by first | rfl | exact fits_nar_char _) W789 1 rfl (Nat.le_of_ble_eq_true rfl)⟩
                have N794 := Fr.snoc X789 N786 g772
                have q795 : (nar .char c1) = c1 := own_narc hrc1
                have f796 : Av Z h789 b744 .char (2 : Int32) [(.int c1), (.int (nar .char c2))] (.int (0 : Int32)) := by rw [← q795]; exact f793
                have q797 : (nar .char c2) = c2 := own_narc hrc2
                have f798 : Av Z h789 b744 .char (2 : Int32) [(.int c1), (.int c2)] (.int (0 : Int32)) := by rw [← q797]; exact f796
                obtain ⟨kc799, Vc799⟩ := id f798
                have hws799 : ∀ d ∈ StrChars.Road.words, d.before a0 Z = true := fun d hd => hw d ((by decide +kernel : ∀ d ∈ StrChars.Road.words, d ∈ tables_1) d hd)
                have hbd799 : ([c1, c2] : List Int32).length ≤ 2 := (Nat.le_of_ble_eq_true rfl)
                have f800 := ((((pf_O.ext E723).ext E744).wr W781 g772).wr W789 g772)
                have f801 := (Nat.le_trans (Nat.le_trans (Nat.le_trans f773 E744.1) (Keep.of_wr W781).1) (Keep.of_wr W789).1)
                have f802 := (((A723.ext E744).wr W781).wr W789)
                have f803 := (((f743.ext E744).other W781 (Or.inl ne771)).other W789 (Or.inl ne771))
                have f804 := (((f742.ext E744).other W781 (Or.inl ne771)).other W789 (Or.inl ne771))
                obtain ⟨_, _, ⟨T799, L799, k799, n799⟩, -, X799, ⟨Lc799, hQ799, l799, y799, z799⟩, st799⟩ := X789.specialBack hx (y := MN2) rfl hown (mvT hZ wo8) (mvT hZ wo9) (mvT hZ wo10) (by decide) (StrChars.Road.backV (W := 1) hZ hws799 (kI := 4) wo1 (cs := ([c1, c2] : List Int32)) (bs := ([c1, c2] : List Int32).map (fun c => c.toInt8.toInt32)) (n := ([c1, c2] : List Int32).length) g737 f801 f802 f803 f804 Vc799 (pf_S_java_lang_String_COMPACT_STRINGS.ext f800.2) hcs rfl rfl (Nat.le_of_ble_eq_true rfl) (Nat.le_trans hbd799 (by decide)) (own_two hrc1 hrc2) rfl (by decide) (by decide)) (g := (mkF m 198 #[iv p0_0, iv p0_1, iv p0_2, iv p0_3, iv kk, iv md, iv c1, iv c2, .unset, .unset, .unset] [(.ref b744), (.ref b723), (.ref b723)])) rfl (by rw [hml]; rfl) (Steps.refl _) (a := b723) (argsL := [(.ref b744)]) (rest := [(.ref b723)]) (lenOf pd_13 rfl) rfl (by show 2 * 0 + _ ≤ _; exact Nat.le_of_eq rfl) (hb hby at_198) (fun _ _ => ⟨rfl, e789, (by decide : 2 + 1 ≤ _), (Nat.le_trans (Nat.add_le_add_left hbd799 6) (by decide : 6 + 2 ≤ _))⟩)
                dsimp only [Pt.U, Pt.locs, Pt.cells, Pt.slots] at X799 l799 y799 z799 st799 hQ799
                rw [l799, y799, z799] at X799
                have X799 := X799.mono (Nat.le_refl _) (Nat.add_le_add_left hbd799 6)
                obtain ⟨rfl, N799q, K799q, hE799, hC799, t799, kb799, gt799, bt799, nt799, hV799, hA799⟩ := hQ799
                have N805 := Fr.app N794 N799q
                have f806 := (((f745.ext E744).wr W781).wr W789)
                have ne807 : s_NAMES ≠ t799 := Nat.ne_of_lt (Nat.lt_of_lt_of_le f806.lt bt799)
                have f808 := (((f747.ext E744).wr W781).wr W789)
                have ne809 : s_VALUES ≠ t799 := Nat.ne_of_lt (Nat.lt_of_lt_of_le f808.lt bt799)
                have f810 := (((f749.ext E744).wr W781).wr W789)
                have ne811 : s_ATTRIBUTES ≠ t799 := Nat.ne_of_lt (Nat.lt_of_lt_of_le f810.lt bt799)
                have f812 := (((f751.ext E744).wr W781).wr W789)
                have ne813 : s_TYPES ≠ t799 := Nat.ne_of_lt (Nat.lt_of_lt_of_le f812.lt bt799)
                have f814 := (((f753.ext E744).wr W781).wr W789)
                have ne815 : s_LINKS ≠ t799 := Nat.ne_of_lt (Nat.lt_of_lt_of_le f814.lt bt799)
                have f816 := (((f755.ext E744).wr W781).wr W789)
                have ne817 : s_NAMES_name ≠ t799 := Nat.ne_of_lt (Nat.lt_of_lt_of_le f816.lt bt799)
                have f818 := (((f757.ext E744).wr W781).wr W789)
                have ne819 : s_ATTRIBUTES_name ≠ t799 := Nat.ne_of_lt (Nat.lt_of_lt_of_le f818.lt bt799)
                have f820 := (((f759.ext E744).wr W781).wr W789)
                have ne821 : s_TYPES_name ≠ t799 := Nat.ne_of_lt (Nat.lt_of_lt_of_le f820.lt bt799)
                have f822 := (((f761.ext E744).wr W781).wr W789)
                have ne823 : s_LINKS_name ≠ t799 := Nat.ne_of_lt (Nat.lt_of_lt_of_le f822.lt bt799)
                have f824 := (((f763.ext E744).other W781 ne764).other W789 ne764)
                have ne825 : s_NAMES_name_value ≠ t799 := Nat.ne_of_lt (Nat.lt_of_lt_of_le f824.lt bt799)
                have f826 := (((f765.ext E744).other W781 ne766).other W789 ne766)
                have ne827 : s_ATTRIBUTES_name_value ≠ t799 := Nat.ne_of_lt (Nat.lt_of_lt_of_le f826.lt bt799)
                have f828 := (((f767.ext E744).other W781 ne768).other W789 ne768)
                have ne829 : s_TYPES_name_value ≠ t799 := Nat.ne_of_lt (Nat.lt_of_lt_of_le f828.lt bt799)
                have f830 := (((f769.ext E744).other W781 ne770).other W789 ne770)
                have ne831 : s_LINKS_name_value ≠ t799 := Nat.ne_of_lt (Nat.lt_of_lt_of_le f830.lt bt799)
                have ne832 : b723 ≠ t799 := Nat.ne_of_lt (Nat.lt_of_lt_of_le f802.lt bt799)
                have ne833 : b744 ≠ t799 := Nat.ne_of_lt (Nat.lt_of_lt_of_le f798.lt bt799)
                have g834 : n0 ≤ t799 := Nat.le_trans f801 bt799
                have bz835 : h0.size ≤ t799 := Nat.le_trans (K792).1 bt799
                have CS836 : CHr Z consts_1 s.vm h789 s.vm (T799.heap) := (CHr.keep K799q (allS (P := fun x => Safe Z consts_1 s.vm _ x) (own_safeNull hZ.alike f802 f803) all0) CR791.1)
                have CR837 := CR791.trans CS836
                have K838 : Keep h0 T799.heap [] := (K792).trans K799q (allS (P := fun x => x ∈ [] ∨ h0.size ≤ x) (Or.inr bz738) all0)
                have f839 : Av Z T799.heap t799 .byte (2 : Int32) (own_vs [c1, c2]) (.int (0 : Int32)) := ⟨kb799, by have q_ := hA799; rw [List.map_map] at q_; exact q_⟩
                have f840 := (f800.keep K799q (allS g737 all0))
                have f842 := (Nat.le_trans f801 K799q.1)
                have hZ841 := hZ
                have hown841 := hown
                obtain ⟨_, _, ⟨T841, L841, k841, n841⟩, -, X841, Sp841, Gp841, ⟨Lc841, hQ841, l841, y841, z841, cc841⟩, st841⟩ := callSS X799 hx (y := MN8) hown (mvT hZ wo34) (mvT hZ wo35) (mvT hZ wo5) (mvT hZ wo36) (by decide) (backOfSH (s := s) (vm0 := s.vm) (W := 0) (rmExp l Z a0 hw [] b723 t799 (2 : Int32) ([c1, c2]) s_NAMES s_ATTRIBUTES s_TYPES s_LINKS cs (T799.heap) n0 f842 f840 pf_S_com_example_iskati_iskati_entity_EntityField_NAMES pf_S_com_example_iskati_iskati_entity_EntityField_ATTRIBUTES pf_S_com_example_iskati_iskati_entity_EntityField_TYPES pf_S_com_example_iskati_iskati_entity_EntityField_LINKS pf_S_java_lang_String_COMPACT_STRINGS (hcs : ¬ (cs = (0 : Int32))) hE799 hV799 hC799 f839 ((by rfl) : (2 : Int32) = Int32.ofNat [c1, c2].length) ((own_two hrc1 hrc2) : ∀ c ∈ [c1, c2], ¬ c < 0 ∧ ¬ (255 : Int32) < c) (Nat.le_trans (Nat.le_of_ble_eq_true rfl) (show 2 ≤ 4000 from Nat.le_of_ble_eq_true rfl) : [c1, c2].length ≤ 4000)) hZ wo36 wo5 (by decide) (by decide) hEL CR837.1) (g := (mkF m 205 #[iv p0_0, iv p0_1, iv p0_2, iv p0_3, iv kk, iv md, iv c1, iv c2, rv b723, .unset, .unset] [(.ref b723)])) rfl (by rw [hml]; rfl) (argsL := [(.ref b723)]) (rest := []) (lenOf pd_9 rfl) rfl (by show 2 * 0 + _ ≤ _; exact Nat.le_of_eq rfl) (hb hby at_205) (fun _ _ => ⟨rfl, rfl, (by decide : 3 + 8 ≤ _), (by decide : 8 + 116 ≤ _)⟩)
                dsimp only [Pt.U, Pt.locs, Pt.cells, Pt.slots] at X841 l841 y841 z841 st841 hQ841 Sp841 Gp841 cc841
                rw [l841, y841, z841] at X841
                obtain ⟨X841, S841, hZ, hown⟩ := rebS (s := s) (vm0 := s.vm) (Z := Z) (own := "com/example/iskati/iskati/entity/EntityFieldNamedPinLaw") ((State.WarmedH.refl s).since 0) (Nat.zero_le _) X841 Sp841 Gp841 hZ hown
                obtain ⟨rfl, N841q, K841q⟩ := hQ841
                have N843 := Fr.app N805 N841q
                have CS844 : CHr Z consts_1 s.vm (T799.heap) T841.vm (T841.heap) := cc841
                have CR845 := CR837.trans CS844
                have K846 : Keep h0 T841.heap [] := (K838).trans K841q all0
                have f847 := (f840.keep K841q all0)
                have f848 := ((f806.keep K799q).keep K841q)
                have f849 := ((f808.keep K799q).keep K841q)
                have f850 := ((f810.keep K799q).keep K841q)
                have f851 := ((f812.keep K799q).keep K841q)
                have f852 := ((f814.keep K799q).keep K841q)
                have f853 := ((((((pf_F_s_NAMES_name.ext E723).ext E744).other W781 (Or.inl ne746)).other W789 (Or.inl ne746)).keep K799q (ninS ne724 nin0)).keep K841q nin0)
                have f854 := ((f816.keep K799q).keep K841q)
                have f855 := ((((((pf_F_s_NAMES_name_coder.ext E723).ext E744).other W781 (Or.inl ne756)).other W789 (Or.inl ne756)).keep K799q (ninS ne729 nin0)).keep K841q nin0)
                have f856 := ((((((pf_F_s_NAMES_name_value.ext E723).ext E744).other W781 (Or.inl ne756)).other W789 (Or.inl ne756)).keep K799q (ninS ne729 nin0)).keep K841q nin0)
                have f857 := ((((((pf_F_s_ATTRIBUTES_name.ext E723).ext E744).other W781 (Or.inl ne750)).other W789 (Or.inl ne750)).keep K799q (ninS ne726 nin0)).keep K841q nin0)
                have f858 := ((f818.keep K799q).keep K841q)
                have f859 := ((((((pf_F_s_ATTRIBUTES_name_coder.ext E723).ext E744).other W781 (Or.inl ne758)).other W789 (Or.inl ne758)).keep K799q (ninS ne730 nin0)).keep K841q nin0)
                have f860 := ((((((pf_F_s_ATTRIBUTES_name_value.ext E723).ext E744).other W781 (Or.inl ne758)).other W789 (Or.inl ne758)).keep K799q (ninS ne730 nin0)).keep K841q nin0)
                have f861 := ((((((pf_F_s_TYPES_name.ext E723).ext E744).other W781 (Or.inl ne752)).other W789 (Or.inl ne752)).keep K799q (ninS ne727 nin0)).keep K841q nin0)
                have f862 := ((f820.keep K799q).keep K841q)
                have f863 := ((((((pf_F_s_TYPES_name_coder.ext E723).ext E744).other W781 (Or.inl ne760)).other W789 (Or.inl ne760)).keep K799q (ninS ne731 nin0)).keep K841q nin0)
                have f864 := ((((((pf_F_s_TYPES_name_value.ext E723).ext E744).other W781 (Or.inl ne760)).other W789 (Or.inl ne760)).keep K799q (ninS ne731 nin0)).keep K841q nin0)
                have f865 := ((((((pf_F_s_LINKS_name.ext E723).ext E744).other W781 (Or.inl ne754)).other W789 (Or.inl ne754)).keep K799q (ninS ne728 nin0)).keep K841q nin0)
                have f866 := ((f822.keep K799q).keep K841q)
                have f867 := ((((((pf_F_s_LINKS_name_coder.ext E723).ext E744).other W781 (Or.inl ne762)).other W789 (Or.inl ne762)).keep K799q (ninS ne732 nin0)).keep K841q nin0)
                have f868 := ((((((pf_F_s_LINKS_name_value.ext E723).ext E744).other W781 (Or.inl ne762)).other W789 (Or.inl ne762)).keep K799q (ninS ne732 nin0)).keep K841q nin0)
                have f869 := ((((((pf_A_s_VALUES.ext E723).ext E744).other W781 ne748).other W789 ne748).keep K799q (ninS ne725 nin0)).keep K841q nin0)
                have f870 := ((f824.keep K799q (ninS ne733 nin0)).keep K841q nin0)
                have f871 := ((f826.keep K799q (ninS ne734 nin0)).keep K841q nin0)
                have f872 := ((f828.keep K799q (ninS ne735 nin0)).keep K841q nin0)
                have f873 := ((f830.keep K799q (ninS ne736 nin0)).keep K841q nin0)
                have f874 := (hE799.keep K841q)
                have f875 := (hV799.keep K841q nin0)
                have f876 := (hC799.keep K841q nin0)
                have f877 := (f839.keep K841q nin0)
                have f879 := (Nat.le_trans f842 K841q.1)
                obtain ⟨_, _, ⟨T878, L878, k878, n878⟩, -, X878, ⟨Lc878, hQ878, l878, y878, z878⟩, st878⟩ := Jvm.LawKit.callS X841 hx (y := MN11) hown (mvT hZ wo53) (mvT hZ wo54) (mvT hZ wo51) (mvT hZ wo55) (by decide) (backOf (W := 0) (rmNam l Z a0 hw [] b723 t799 (2 : Int32) ([c1, c2]) s_NAMES s_VALUES s_ATTRIBUTES s_TYPES s_LINKS s_NAMES_name s_NAMES_name_value s_ATTRIBUTES_name s_ATTRIBUTES_name_value s_TYPES_name s_TYPES_name_value s_LINKS_name s_LINKS_name_value cs (T841.heap) n0 f879 f847 pf_S_com_example_iskati_iskati_entity_EntityField_NAMES f848 pf_S_com_example_iskati_iskati_entity_EntityField__VALUES f849 pf_S_com_example_iskati_iskati_entity_EntityField_ATTRIBUTES f850 pf_S_com_example_iskati_iskati_entity_EntityField_TYPES f851 pf_S_com_example_iskati_iskati_entity_EntityField_LINKS f852 f853 f854 f855 f856 f857 f858 f859 f860 f861 f862 f863 f864 f865 f866 f867 f868 f869 f870 f871 f872 f873 pf_S_java_lang_String_COMPACT_STRINGS (hcs : ¬ (cs = (0 : Int32))) f874 f875 f876 f877 ((by rfl) : (2 : Int32) = Int32.ofNat [c1, c2].length) ((own_two hrc1 hrc2) : ∀ c ∈ [c1, c2], ¬ c < 0 ∧ ¬ (255 : Int32) < c) (Nat.le_trans (Nat.le_of_ble_eq_true rfl) (show 2 ≤ 4000 from Nat.le_of_ble_eq_true rfl) : [c1, c2].length ≤ 4000)) hZ wo55 wo51 (by decide) (by decide)) (g := (mkF m 212 #[iv p0_0, iv p0_1, iv p0_2, iv p0_3, iv kk, iv md, iv c1, iv c2, rv b723, .val (own_pk [c1, c2] s_NAMES s_ATTRIBUTES s_TYPES s_LINKS), .unset] [(.ref b723)])) rfl (by rw [hml]; rfl) (argsL := [(.ref b723)]) (rest := []) (lenOf pd_9 rfl) rfl (by show 2 * 0 + _ ≤ _; exact Nat.le_of_eq rfl) (hb hby at_212) (fun _ _ => ⟨rfl, rfl, (by decide : 11 + 1 ≤ _), (by decide : 124 + 4 ≤ _)⟩)
                dsimp only [Pt.U, Pt.locs, Pt.cells, Pt.slots] at X878 l878 y878 z878 st878 hQ878
                rw [l878, y878, z878] at X878
                obtain ⟨rfl, N878q, K878q⟩ := hQ878
                have N880 := Fr.app N843 N878q
                have CS881 : CHr Z consts_1 T841.vm (T841.heap) T841.vm (T878.heap) := (CHr.keep K878q all0 CR845.1)
                have CR882 := CR845.trans CS881
                have K883 : Keep h0 T878.heap [] := (K846).trans K878q all0
                have f884 := (Nat.le_trans (Nat.le_refl T841.heap.size) K878q.1)
                obtain ⟨fs, hr, hrun, hended, -, hW1, hW2, hW3⟩ := X878.leaveW S841 f884 (v := some (.int (1 : Int32))) (fun h => by rw [Bd.returns] at h; cases h)
                refine ⟨_, _, pre657 _ ?_, hrun, hended, _, _, rfl, ?_, hW1, hW2, hW3.mono (by decide) (by decide)⟩
                · show Steps p.tables e below (s₁.setTop (mkF m 168 #[iv p0_0, iv p0_1, iv p0_2, iv p0_3, iv kk, iv md, iv c1, iv c2, .unset, .unset, .unset] [(.int (6 : Int32)), (.int md)])) _
                  refine XS.icmpYes X0.here hx rfl (pc0 := 168) (pc' := 181) rfl (hb hby at_168) rfl (feq hc168_656).2 (by decide) (by decide) ?_
                  show Steps p.tables e below (s₁.setTop (mkF m 181 #[iv p0_0, iv p0_1, iv p0_2, iv p0_3, iv kk, iv md, iv c1, iv c2, .unset, .unset, .unset] [])) _
                  refine st723 _ ?_
                  show Steps p.tables e below (T723.setTop (mkF m 184 #[iv p0_0, iv p0_1, iv p0_2, iv p0_3, iv kk, iv md, iv c1, iv c2, .unset, .unset, .unset] [(.ref b723)])) _
                  refine XS.dup X723.here hx rfl (hb hby at_184) rfl rfl ?_
                  show Steps p.tables e below (T723.setTop (mkF m 185 #[iv p0_0, iv p0_1, iv p0_2, iv p0_3, iv kk, iv md, iv c1, iv c2, .unset, .unset, .unset] [(.ref b723), (.ref b723)])) _
                  refine XS.iconst X723.here hx rfl (hb hby at_185) ?_
                  show Steps p.tables e below (T723.setTop (mkF m 186 #[iv p0_0, iv p0_1, iv p0_2, iv p0_3, iv kk, iv md, iv c1, iv c2, .unset, .unset, .unset] [(.int (2 : Int32)), (.ref b723), (.ref b723)])) _
                  refine st744 _ ?_
                  show Steps p.tables e below (T744.setTop (mkF m 188 #[iv p0_0, iv p0_1, iv p0_2, iv p0_3, iv kk, iv md, iv c1, iv c2, .unset, .unset, .unset] [(.ref b744), (.ref b723), (.ref b723)])) _
                  refine XS.dup X744.here hx rfl (hb hby at_188) rfl rfl ?_
                  show Steps p.tables e below (T744.setTop (mkF m 189 #[iv p0_0, iv p0_1, iv p0_2, iv p0_3, iv kk, iv md, iv c1, iv c2, .unset, .unset, .unset] [(.ref b744), (.ref b744), (.ref b723), (.ref b723)])) _
                  refine XS.iconst X744.here hx rfl (hb hby at_189) ?_
                  show Steps p.tables e below (T744.setTop (mkF m 190 #[iv p0_0, iv p0_1, iv p0_2, iv p0_3, iv kk, iv md, iv c1, iv c2, .unset, .unset, .unset] [(.int (0 : Int32)), (.ref b744), (.ref b744), (.ref b723), (.ref b723)])) _
                  refine XS.iload X744.here hx rfl (hb hby at_190) rfl ?_
                  show Steps p.tables e below (T744.setTop (mkF m 192 #[iv p0_0, iv p0_1, iv p0_2, iv p0_3, iv kk, iv md, iv c1, iv c2, .unset, .unset, .unset] [(.int c1), (.int (0 : Int32)), (.ref b744), (.ref b744), (.ref b723), (.ref b723)])) _
                  refine st781 _ ?_
                  show Steps p.tables e below (T781.setTop (mkF m 193 #[iv p0_0, iv p0_1, iv p0_2, iv p0_3, iv kk, iv md, iv c1, iv c2, .unset, .unset, .unset] [(.ref b744), (.ref b723), (.ref b723)])) _
                  refine XS.dup X781.here hx rfl (hb hby at_193) rfl rfl ?_
                  show Steps p.tables e below (T781.setTop (mkF m 194 #[iv p0_0, iv p0_1, iv p0_2, iv p0_3, iv kk, iv md, iv c1, iv c2, .unset, .unset, .unset] [(.ref b744), (.ref b744), (.ref b723), (.ref b723)])) _
                  refine XS.iconst X781.here hx rfl (hb hby at_194) ?_
                  show Steps p.tables e below (T781.setTop (mkF m 195 #[iv p0_0, iv p0_1, iv p0_2, iv p0_3, iv kk, iv md, iv c1, iv c2, .unset, .unset, .unset] [(.int (1 : Int32)), (.ref b744), (.ref b744), (.ref b723), (.ref b723)])) _
                  refine XS.iload X781.here hx rfl (hb hby at_195) rfl ?_
                  show Steps p.tables e below (T781.setTop (mkF m 197 #[iv p0_0, iv p0_1, iv p0_2, iv p0_3, iv kk, iv md, iv c1, iv c2, .unset, .unset, .unset] [(.int c2), (.int (1 : Int32)), (.ref b744), (.ref b744), (.ref b723), (.ref b723)])) _
                  refine st789 _ ?_
                  show Steps p.tables e below (T789.setTop (mkF m 198 #[iv p0_0, iv p0_1, iv p0_2, iv p0_3, iv kk, iv md, iv c1, iv c2, .unset, .unset, .unset] [(.ref b744), (.ref b723), (.ref b723)])) _
                  show Steps p.tables e below (T789.setTop (mkF m 198 #[iv p0_0, iv p0_1, iv p0_2, iv p0_3, iv kk, iv md, iv c1, iv c2, .unset, .unset, .unset] [(.ref b744), (.ref b723), (.ref b723)])) _
                  show Steps p.tables e below (T789.setTop (mkF m 198 #[iv p0_0, iv p0_1, iv p0_2, iv p0_3, iv kk, iv md, iv c1, iv c2, .unset, .unset, .unset] [(.ref b744), (.ref b723), (.ref b723)])) _
                  refine st799.trans ?_
                  show Steps p.tables e below (T799.setTop (mkF m 201 #[iv p0_0, iv p0_1, iv p0_2, iv p0_3, iv kk, iv md, iv c1, iv c2, .unset, .unset, .unset] [(.ref b723)])) _
                  refine XS.astore X799.here hx rfl (hb hby at_201) rfl rfl (l' := #[iv p0_0, iv p0_1, iv p0_2, iv p0_3, iv kk, iv md, iv c1, iv c2, rv b723, .unset, .unset]) rfl ?_
                  show Steps p.tables e below (T799.setTop (mkF m 203 #[iv p0_0, iv p0_1, iv p0_2, iv p0_3, iv kk, iv md, iv c1, iv c2, rv b723, .unset, .unset] [])) _
                  refine XS.aload X799.here hx rfl (hb hby at_203) rfl rfl ?_
                  show Steps p.tables e below (T799.setTop (mkF m 205 #[iv p0_0, iv p0_1, iv p0_2, iv p0_3, iv kk, iv md, iv c1, iv c2, rv b723, .unset, .unset] [(.ref b723)])) _
                  refine st841.trans ?_
                  show Steps p.tables e below (T841.setTop (mkF m 208 #[iv p0_0, iv p0_1, iv p0_2, iv p0_3, iv kk, iv md, iv c1, iv c2, rv b723, .unset, .unset] [(own_pk [c1, c2] s_NAMES s_ATTRIBUTES s_TYPES s_LINKS)])) _
                  refine XS.astore X841.here hx rfl (hb hby at_208) rfl (own_pkr [c1, c2] s_NAMES s_ATTRIBUTES s_TYPES s_LINKS) (l' := #[iv p0_0, iv p0_1, iv p0_2, iv p0_3, iv kk, iv md, iv c1, iv c2, rv b723, .val (own_pk [c1, c2] s_NAMES s_ATTRIBUTES s_TYPES s_LINKS), .unset]) (storeLocals_cat1 rfl (own_cat (own_pkr [c1, c2] s_NAMES s_ATTRIBUTES s_TYPES s_LINKS)) (by first | trivial | rfl)) ?_
                  show Steps p.tables e below (T841.setTop (mkF m 210 #[iv p0_0, iv p0_1, iv p0_2, iv p0_3, iv kk, iv md, iv c1, iv c2, rv b723, .val (own_pk [c1, c2] s_NAMES s_ATTRIBUTES s_TYPES s_LINKS), .unset] [])) _
                  refine XS.aload X841.here hx rfl (hb hby at_210) rfl rfl ?_
                  show Steps p.tables e below (T841.setTop (mkF m 212 #[iv p0_0, iv p0_1, iv p0_2, iv p0_3, iv kk, iv md, iv c1, iv c2, rv b723, .val (own_pk [c1, c2] s_NAMES s_ATTRIBUTES s_TYPES s_LINKS), .unset] [(.ref b723)])) _
                  refine st878 _ ?_
                  show Steps p.tables e below (T878.setTop (mkF m 215 #[iv p0_0, iv p0_1, iv p0_2, iv p0_3, iv kk, iv md, iv c1, iv c2, rv b723, .val (own_pk [c1, c2] s_NAMES s_ATTRIBUTES s_TYPES s_LINKS), .unset] [(own_pk [c1, c2] s_NAMES s_ATTRIBUTES s_TYPES s_LINKS)])) _
                  refine XS.astore X878.here hx rfl (hb hby at_215) rfl (own_pkr [c1, c2] s_NAMES s_ATTRIBUTES s_TYPES s_LINKS) (l' := #[iv p0_0, iv p0_1, iv p0_2, iv p0_3, iv kk, iv md, iv c1, iv c2, rv b723, .val (own_pk [c1, c2] s_NAMES s_ATTRIBUTES s_TYPES s_LINKS), .val (own_pk [c1, c2] s_NAMES s_ATTRIBUTES s_TYPES s_LINKS)]) (storeLocals_cat1 rfl (own_cat (own_pkr [c1, c2] s_NAMES s_ATTRIBUTES s_TYPES s_LINKS)) (by first | trivial | rfl)) ?_
                  show Steps p.tables e below (T878.setTop (mkF m 217 #[iv p0_0, iv p0_1, iv p0_2, iv p0_3, iv kk, iv md, iv c1, iv c2, rv b723, .val (own_pk [c1, c2] s_NAMES s_ATTRIBUTES s_TYPES s_LINKS), .val (own_pk [c1, c2] s_NAMES s_ATTRIBUTES s_TYPES s_LINKS)] [])) _
                  refine XS.aload X878.here hx rfl (hb hby at_217) rfl (own_pkr [c1, c2] s_NAMES s_ATTRIBUTES s_TYPES s_LINKS) ?_
                  show Steps p.tables e below (T878.setTop (mkF m 219 #[iv p0_0, iv p0_1, iv p0_2, iv p0_3, iv kk, iv md, iv c1, iv c2, rv b723, .val (own_pk [c1, c2] s_NAMES s_ATTRIBUTES s_TYPES s_LINKS), .val (own_pk [c1, c2] s_NAMES s_ATTRIBUTES s_TYPES s_LINKS)] [(own_pk [c1, c2] s_NAMES s_ATTRIBUTES s_TYPES s_LINKS)])) _
                  refine XS.aload X878.here hx rfl (hb hby at_219) rfl (own_pkr [c1, c2] s_NAMES s_ATTRIBUTES s_TYPES s_LINKS) ?_
                  show Steps p.tables e below (T878.setTop (mkF m 221 #[iv p0_0, iv p0_1, iv p0_2, iv p0_3, iv kk, iv md, iv c1, iv c2, rv b723, .val (own_pk [c1, c2] s_NAMES s_ATTRIBUTES s_TYPES s_LINKS), .val (own_pk [c1, c2] s_NAMES s_ATTRIBUTES s_TYPES s_LINKS)] [(own_pk [c1, c2] s_NAMES s_ATTRIBUTES s_TYPES s_LINKS), (own_pk [c1, c2] s_NAMES s_ATTRIBUTES s_TYPES s_LINKS)])) _
                  refine Jvm.RoadKit.acmp (g := (mkF m 221 #[iv p0_0, iv p0_1, iv p0_2, iv p0_3, iv kk, iv md, iv c1, iv c2, rv b723, .val (own_pk [c1, c2] s_NAMES s_ATTRIBUTES s_TYPES s_LINKS), .val (own_pk [c1, c2] s_NAMES s_ATTRIBUTES s_TYPES s_LINKS)] [(own_pk [c1, c2] s_NAMES s_ATTRIBUTES s_TYPES s_LINKS), (own_pk [c1, c2] s_NAMES s_ATTRIBUTES s_TYPES s_LINKS)])) X878 hx rfl (own_pkr [c1, c2] s_NAMES s_ATTRIBUTES s_TYPES s_LINKS) (own_pkr [c1, c2] s_NAMES s_ATTRIBUTES s_TYPES s_LINKS) (pc0 := 221) (pc' := 224) (same := true) rfl (hb hby at_221) rfl (decide_eq_true rfl) (by decide) (by decide) ?_
                  show Steps p.tables e below (T878.setTop (mkF m 224 #[iv p0_0, iv p0_1, iv p0_2, iv p0_3, iv kk, iv md, iv c1, iv c2, rv b723, .val (own_pk [c1, c2] s_NAMES s_ATTRIBUTES s_TYPES s_LINKS), .val (own_pk [c1, c2] s_NAMES s_ATTRIBUTES s_TYPES s_LINKS)] [])) _
                  refine XS.iconst X878.here hx rfl (hb hby at_224) ?_
                  show Steps p.tables e below (T878.setTop (mkF m 225 #[iv p0_0, iv p0_1, iv p0_2, iv p0_3, iv kk, iv md, iv c1, iv c2, rv b723, .val (own_pk [c1, c2] s_NAMES s_ATTRIBUTES s_TYPES s_LINKS), .val (own_pk [c1, c2] s_NAMES s_ATTRIBUTES s_TYPES s_LINKS)] [(.int (1 : Int32))])) _
                  refine XS.goto X878.here hx rfl (pc0 := 225) (pc' := 229) rfl (hb hby at_225) (by decide) (by decide) ?_
                  show Steps p.tables e below (T878.setTop (mkF m 229 #[iv p0_0, iv p0_1, iv p0_2, iv p0_3, iv kk, iv md, iv c1, iv c2, rv b723, .val (own_pk [c1, c2] s_NAMES s_ATTRIBUTES s_TYPES s_LINKS), .val (own_pk [c1, c2] s_NAMES s_ATTRIBUTES s_TYPES s_LINKS)] [(.int (1 : Int32))])) _
                  exact retN X878 hx (t := .boolean) Bd.returns (by simp) (hb hby at_229) hr
                · show Q_rm0 Z _ _ _ _ _ _ _ _ _ _ _ _ _ _ _ _ _ _ h0 n0 _ T878.heap _
                  exact ⟨rfl, N880, (K883)⟩
set_option maxRecDepth 65536 in
set_option maxHeartbeats 40000000 in
theorem comes_1 {Post : Tables → Env → Array Value → State → Outcome → State → Prop} (hpost : ∀ tb e args s v u, (limb_1_1.after args s (.returned v) u = true ∧ limb_1_2.after args s (.returned v) u = true ∧ True) → FramedW s (.returned v) u (Jvm.fieldLocs frame_1_writes args s ++ Jvm.arrayLocs frame_1_arrays args s ++ Jvm.staticLocs frame_1_statics s) 32 5312 → Post tb e args s (.returned v) u) :
    ArmFor flags0 classFile x code maxLocals ret World_1 tables_1 room_1 Calls_1 rest_1 Pre_1 Post := by
  intro l hfl _ _ p e ha hc hk s m args below hf hA hF happ hP
  obtain ⟨hcalls, hrest, hpre⟩ := hP
  obtain ⟨-, -, -, hnamed, -, -, -, hat⟩ := (Spec.applies_iff hf).mp happ
  obtain ⟨hg, hn⟩ := and_e (Cond.before_iff.mp (show (Jvm.Cond.and given_1 narrow_1).before args s = true from hpre))
  obtain ⟨g1, g2⟩ := and_e hg
  obtain ⟨g3, g4⟩ := and_e g2
  obtain ⟨g5, g6⟩ := and_e g4
  obtain ⟨g7, g8⟩ := and_e g6
  obtain ⟨w0, w1, w2, w3, rfl⟩ : ∃ w0 w1 w2 w3 : Value, args = #[w0, w1, w2, w3] := by
    have hs : args.size = 4 := by simpa [Cond.value, given_1] using g1
    obtain ⟨L⟩ := args
    match L, hs with
    | [w0, w1, w2, w3], _ => exact ⟨w0, w1, w2, w3, rfl⟩
  have hw := fun d (hd : d ∈ tables_1) => atoms_spec (ws := Jvm.Cond.code x code maxLocals ret :: tables_1) hat d (List.mem_cons_of_mem _ hd)
  have hfit : Fit s := fun {y c} hc i hi => by
    obtain ⟨ha, rfl⟩ := Array.getElem?_eq_some_iff.mp hc
    have q := List.all_eq_true.mp ((Array.all_eq_true_iff_forall_mem.mp hF) _ (Array.getElem_mem ha)) i (List.mem_range.mpr hi)
    simpa [Array.getElem?_eq_getElem hi] using q
  obtain ⟨hsets, hown0⟩ := atoms_of _ (rest_1_c_eq ▸ (show rest_1_c.before _ s = true from hrest))
  have hr0 := Cond.before_iff.mp hown0
  obtain ⟨i0, ei0⟩ := is_v g3
  obtain rfl : w0 = (.int i0) := Option.some.inj ei0
  obtain ⟨i1, ei1⟩ := is_v g5
  obtain rfl : w1 = (.int i1) := Option.some.inj ei1
  obtain ⟨i2, ei2⟩ := is_v g7
  obtain rfl : w2 = (.int i2) := Option.some.inj ei2
  obtain ⟨i3, ei3⟩ := is_v g8
  obtain rfl : w3 = (.int i3) := Option.some.inj ei3
  obtain ⟨hn1a, hn1b⟩ := and_e hn
  obtain ⟨hn2a, hn2b⟩ := and_e hn1b
  obtain ⟨hn3a, hn3b⟩ := and_e hn2b
  obtain ⟨hn4a, hn4b⟩ := and_e hn3b
  obtain ⟨hn5a, hn5b⟩ := and_e hn4b
  obtain ⟨hn6a, hn6b⟩ := and_e hn5b
  obtain ⟨hn7a, hn7b⟩ := and_e hn6b
  obtain ⟨hn8a, hn8b⟩ := and_e hn7b
  obtain ⟨hn9a, hn9b⟩ := and_e hn8b
  obtain ⟨hn10a, hn10b⟩ := and_e hn9b
  obtain ⟨hn11a, hn11b⟩ := and_e hn10b
  obtain ⟨hn12a, hn12b⟩ := and_e hn11b
  obtain ⟨hn13a, hn13b⟩ := and_e hn12b
  obtain ⟨hn14a, hn14b⟩ := and_e hn13b
  obtain ⟨hn15a, hn15b⟩ := and_e hn14b
  obtain ⟨hn16a, hn16b⟩ := and_e hn15b
  obtain ⟨hn17a, hn17b⟩ := and_e hn16b
  obtain ⟨hn18a, hn18b⟩ := and_e hn17b
  obtain ⟨hn19a, hn19b⟩ := and_e hn18b
  obtain ⟨hn20a, hn20b⟩ := and_e hn19b
  obtain ⟨hn21a, hn21b⟩ := and_e hn20b
  obtain ⟨hn22a, hn22b⟩ := and_e hn21b
  obtain ⟨hn23a, hn23b⟩ := and_e hn22b
  obtain ⟨hn24a, hn24b⟩ := and_e hn23b
  obtain ⟨hn25a, hn25b⟩ := and_e hn24b
  obtain ⟨hn26a, hn26b⟩ := and_e hn25b
  obtain ⟨hn27a, hn27b⟩ := and_e hn26b
  obtain ⟨hn28a, hn28b⟩ := and_e hn27b
  obtain ⟨hn29a, hn29b⟩ := and_e hn28b
  obtain ⟨hn30a, hn30b⟩ := and_e hn29b
  obtain ⟨hn31a, hn31b⟩ := and_e hn30b
  obtain ⟨hn32a, hn32b⟩ := and_e hn31b
  obtain ⟨hn33a, hn33b⟩ := and_e hn32b
  obtain ⟨hn34a, hn34b⟩ := and_e hn33b
  obtain ⟨hn35a, hn35b⟩ := and_e hn34b
  obtain ⟨hn36a, hn36b⟩ := and_e hn35b
  obtain ⟨hn37a, hn37b⟩ := and_e hn36b
  obtain ⟨hn38a, hn38b⟩ := and_e hn37b
  obtain ⟨hn39a, hn39b⟩ := and_e hn38b
  obtain ⟨hn40a, hn40b⟩ := and_e hn39b
  obtain ⟨hn41a, hn41b⟩ := and_e hn40b
  obtain ⟨hn42a, hn42b⟩ := and_e hn41b
  obtain ⟨hn43a, hn43b⟩ := and_e hn42b
  obtain ⟨hn44a, hn44b⟩ := and_e hn43b
  obtain ⟨hn45a, hn45b⟩ := and_e hn44b
  obtain ⟨hn46a, hn46b⟩ := and_e hn45b
  obtain ⟨hn47a, hn47b⟩ := and_e hn46b
  obtain ⟨hn48a, hn48b⟩ := and_e hn47b
  obtain ⟨hn49a, hn49b⟩ := and_e hn48b
  obtain ⟨hn50a, hn50b⟩ := and_e hn49b
  obtain ⟨hn51a, hn51b⟩ := and_e hn50b
  obtain ⟨s_NAMES, es_NAMES⟩ := exa_v hn1a
  have Ss_NAMES : Sta s s.heap "com/example/iskati/iskati/entity/EntityField" "NAMES" "Lcom/example/iskati/iskati/entity/EntityField;" (.ref s_NAMES) := Sta.start es_NAMES (Or.inr ⟨(hw _ (List.mem_of_getElem? (i := 51) rfl)), (hw _ (List.mem_of_getElem? (i := 52) rfl))⟩)
  have Es_NAMES := Exa.start es_NAMES hn1a
  obtain ⟨s_VALUES, es_VALUES⟩ := arr_v hn2a
  have Ss_VALUES : Sta s s.heap "com/example/iskati/iskati/entity/EntityField" "$VALUES" "[Lcom/example/iskati/iskati/entity/EntityField;" (.ref s_VALUES) := Sta.start es_VALUES (Or.inr ⟨(hw _ (List.mem_of_getElem? (i := 51) rfl)), (hw _ (List.mem_of_getElem? (i := 60) rfl))⟩)
  obtain ⟨cs_VALUES, As_VALUES⟩ := Arr.start es_VALUES hn2a
  have Es_VALUES := Exa.start es_VALUES hn3a
  obtain ⟨lqs_VALUES, les_VALUES⟩ := own_lenA hn4a es_VALUES As_VALUES
  have xs_VALUES_0 := (own_elt es_VALUES As_VALUES (i := 0) (by decide)).symm.trans (own_eqr hn5a es_NAMES)
  obtain ⟨s_ATTRIBUTES, es_ATTRIBUTES⟩ := exa_v hn6a
  have Ss_ATTRIBUTES : Sta s s.heap "com/example/iskati/iskati/entity/EntityField" "ATTRIBUTES" "Lcom/example/iskati/iskati/entity/EntityField;" (.ref s_ATTRIBUTES) := Sta.start es_ATTRIBUTES (Or.inr ⟨(hw _ (List.mem_of_getElem? (i := 51) rfl)), (hw _ (List.mem_of_getElem? (i := 68) rfl))⟩)
  have Es_ATTRIBUTES := Exa.start es_ATTRIBUTES hn6a
  have xs_VALUES_1 := (own_elt es_VALUES As_VALUES (i := 1) (by decide)).symm.trans (own_eqr hn7a es_ATTRIBUTES)
  obtain ⟨s_TYPES, es_TYPES⟩ := exa_v hn8a
  have Ss_TYPES : Sta s s.heap "com/example/iskati/iskati/entity/EntityField" "TYPES" "Lcom/example/iskati/iskati/entity/EntityField;" (.ref s_TYPES) := Sta.start es_TYPES (Or.inr ⟨(hw _ (List.mem_of_getElem? (i := 51) rfl)), (hw _ (List.mem_of_getElem? (i := 69) rfl))⟩)
  have Es_TYPES := Exa.start es_TYPES hn8a
  have xs_VALUES_2 := (own_elt es_VALUES As_VALUES (i := 2) (by decide)).symm.trans (own_eqr hn9a es_TYPES)
  obtain ⟨s_LINKS, es_LINKS⟩ := exa_v hn10a
  have Ss_LINKS : Sta s s.heap "com/example/iskati/iskati/entity/EntityField" "LINKS" "Lcom/example/iskati/iskati/entity/EntityField;" (.ref s_LINKS) := Sta.start es_LINKS (Or.inr ⟨(hw _ (List.mem_of_getElem? (i := 51) rfl)), (hw _ (List.mem_of_getElem? (i := 70) rfl))⟩)
  have Es_LINKS := Exa.start es_LINKS hn10a
  have xs_VALUES_3 := (own_elt es_VALUES As_VALUES (i := 3) (by decide)).symm.trans (own_eqr hn11a es_LINKS)
  obtain ⟨s_NAMES_name, es_NAMES_name⟩ := exa_v hn12a
  have Fs_NAMES_name : Fld s s.heap s_NAMES "com/example/iskati/iskati/entity/EntityField" "name" "Ljava/lang/String;" (.ref s_NAMES_name) := Fld.start (by rw [← fld_at es_NAMES]; exact es_NAMES_name)
  have Es_NAMES_name := Exa.start es_NAMES_name hn12a
  have vs_NAMES_name_coder := own_eqv hn13a
  rw [fld_at es_NAMES_name] at vs_NAMES_name_coder
  have Fs_NAMES_name_coder := Fld.start vs_NAMES_name_coder
  obtain ⟨s_NAMES_name_value, es_NAMES_name_value⟩ := arr_v hn14a
  have Fs_NAMES_name_value : Fld s s.heap s_NAMES_name "java/lang/String" "value" "[B" (.ref s_NAMES_name_value) := Fld.start (by rw [← fld_at es_NAMES_name]; exact es_NAMES_name_value)
  obtain ⟨cs_NAMES_name_value, As_NAMES_name_value⟩ := Arr.start es_NAMES_name_value hn14a
  obtain ⟨lqs_NAMES_name_value, les_NAMES_name_value⟩ := own_lenA hn15a es_NAMES_name_value As_NAMES_name_value
  obtain ⟨s_ATTRIBUTES_name, es_ATTRIBUTES_name⟩ := exa_v hn16a
  have Fs_ATTRIBUTES_name : Fld s s.heap s_ATTRIBUTES "com/example/iskati/iskati/entity/EntityField" "name" "Ljava/lang/String;" (.ref s_ATTRIBUTES_name) := Fld.start (by rw [← fld_at es_ATTRIBUTES]; exact es_ATTRIBUTES_name)
  have Es_ATTRIBUTES_name := Exa.start es_ATTRIBUTES_name hn16a
  have vs_ATTRIBUTES_name_coder := own_eqv hn17a
  rw [fld_at es_ATTRIBUTES_name] at vs_ATTRIBUTES_name_coder
  have Fs_ATTRIBUTES_name_coder := Fld.start vs_ATTRIBUTES_name_coder
  obtain ⟨s_ATTRIBUTES_name_value, es_ATTRIBUTES_name_value⟩ := arr_v hn18a
  have Fs_ATTRIBUTES_name_value : Fld s s.heap s_ATTRIBUTES_name "java/lang/String" "value" "[B" (.ref s_ATTRIBUTES_name_value) := Fld.start (by rw [← fld_at es_ATTRIBUTES_name]; exact es_ATTRIBUTES_name_value)
  obtain ⟨cs_ATTRIBUTES_name_value, As_ATTRIBUTES_name_value⟩ := Arr.start es_ATTRIBUTES_name_value hn18a
  obtain ⟨lqs_ATTRIBUTES_name_value, les_ATTRIBUTES_name_value⟩ := own_lenA hn19a es_ATTRIBUTES_name_value As_ATTRIBUTES_name_value
  obtain ⟨s_TYPES_name, es_TYPES_name⟩ := exa_v hn20a
  have Fs_TYPES_name : Fld s s.heap s_TYPES "com/example/iskati/iskati/entity/EntityField" "name" "Ljava/lang/String;" (.ref s_TYPES_name) := Fld.start (by rw [← fld_at es_TYPES]; exact es_TYPES_name)
  have Es_TYPES_name := Exa.start es_TYPES_name hn20a
  have vs_TYPES_name_coder := own_eqv hn21a
  rw [fld_at es_TYPES_name] at vs_TYPES_name_coder
  have Fs_TYPES_name_coder := Fld.start vs_TYPES_name_coder
  obtain ⟨s_TYPES_name_value, es_TYPES_name_value⟩ := arr_v hn22a
  have Fs_TYPES_name_value : Fld s s.heap s_TYPES_name "java/lang/String" "value" "[B" (.ref s_TYPES_name_value) := Fld.start (by rw [← fld_at es_TYPES_name]; exact es_TYPES_name_value)
  obtain ⟨cs_TYPES_name_value, As_TYPES_name_value⟩ := Arr.start es_TYPES_name_value hn22a
  obtain ⟨lqs_TYPES_name_value, les_TYPES_name_value⟩ := own_lenA hn23a es_TYPES_name_value As_TYPES_name_value
  obtain ⟨s_LINKS_name, es_LINKS_name⟩ := exa_v hn24a
  have Fs_LINKS_name : Fld s s.heap s_LINKS "com/example/iskati/iskati/entity/EntityField" "name" "Ljava/lang/String;" (.ref s_LINKS_name) := Fld.start (by rw [← fld_at es_LINKS]; exact es_LINKS_name)
  have Es_LINKS_name := Exa.start es_LINKS_name hn24a
  have vs_LINKS_name_coder := own_eqv hn25a
  rw [fld_at es_LINKS_name] at vs_LINKS_name_coder
  have Fs_LINKS_name_coder := Fld.start vs_LINKS_name_coder
  obtain ⟨s_LINKS_name_value, es_LINKS_name_value⟩ := arr_v hn26a
  have Fs_LINKS_name_value : Fld s s.heap s_LINKS_name "java/lang/String" "value" "[B" (.ref s_LINKS_name_value) := Fld.start (by rw [← fld_at es_LINKS_name]; exact es_LINKS_name_value)
  obtain ⟨cs_LINKS_name_value, As_LINKS_name_value⟩ := Arr.start es_LINKS_name_value hn26a
  obtain ⟨lqs_LINKS_name_value, les_LINKS_name_value⟩ := own_lenA hn27a es_LINKS_name_value As_LINKS_name_value
  have xs_NAMES_name_value_0 := (own_elt es_NAMES_name_value As_NAMES_name_value (i := 0) (by decide)).symm.trans (own_eqv hn28a)
  have xs_NAMES_name_value_1 := (own_elt es_NAMES_name_value As_NAMES_name_value (i := 1) (by decide)).symm.trans (own_eqv hn29a)
  have xs_NAMES_name_value_2 := (own_elt es_NAMES_name_value As_NAMES_name_value (i := 2) (by decide)).symm.trans (own_eqv hn30a)
  have xs_NAMES_name_value_3 := (own_elt es_NAMES_name_value As_NAMES_name_value (i := 3) (by decide)).symm.trans (own_eqv hn31a)
  have xs_NAMES_name_value_4 := (own_elt es_NAMES_name_value As_NAMES_name_value (i := 4) (by decide)).symm.trans (own_eqv hn32a)
  have xs_ATTRIBUTES_name_value_0 := (own_elt es_ATTRIBUTES_name_value As_ATTRIBUTES_name_value (i := 0) (by decide)).symm.trans (own_eqv hn33a)
  have xs_ATTRIBUTES_name_value_1 := (own_elt es_ATTRIBUTES_name_value As_ATTRIBUTES_name_value (i := 1) (by decide)).symm.trans (own_eqv hn34a)
  have xs_ATTRIBUTES_name_value_2 := (own_elt es_ATTRIBUTES_name_value As_ATTRIBUTES_name_value (i := 2) (by decide)).symm.trans (own_eqv hn35a)
  have xs_ATTRIBUTES_name_value_3 := (own_elt es_ATTRIBUTES_name_value As_ATTRIBUTES_name_value (i := 3) (by decide)).symm.trans (own_eqv hn36a)
  have xs_ATTRIBUTES_name_value_4 := (own_elt es_ATTRIBUTES_name_value As_ATTRIBUTES_name_value (i := 4) (by decide)).symm.trans (own_eqv hn37a)
  have xs_ATTRIBUTES_name_value_5 := (own_elt es_ATTRIBUTES_name_value As_ATTRIBUTES_name_value (i := 5) (by decide)).symm.trans (own_eqv hn38a)
  have xs_ATTRIBUTES_name_value_6 := (own_elt es_ATTRIBUTES_name_value As_ATTRIBUTES_name_value (i := 6) (by decide)).symm.trans (own_eqv hn39a)
  have xs_ATTRIBUTES_name_value_7 := (own_elt es_ATTRIBUTES_name_value As_ATTRIBUTES_name_value (i := 7) (by decide)).symm.trans (own_eqv hn40a)
  have xs_ATTRIBUTES_name_value_8 := (own_elt es_ATTRIBUTES_name_value As_ATTRIBUTES_name_value (i := 8) (by decide)).symm.trans (own_eqv hn41a)
  have xs_ATTRIBUTES_name_value_9 := (own_elt es_ATTRIBUTES_name_value As_ATTRIBUTES_name_value (i := 9) (by decide)).symm.trans (own_eqv hn42a)
  have xs_TYPES_name_value_0 := (own_elt es_TYPES_name_value As_TYPES_name_value (i := 0) (by decide)).symm.trans (own_eqv hn43a)
  have xs_TYPES_name_value_1 := (own_elt es_TYPES_name_value As_TYPES_name_value (i := 1) (by decide)).symm.trans (own_eqv hn44a)
  have xs_TYPES_name_value_2 := (own_elt es_TYPES_name_value As_TYPES_name_value (i := 2) (by decide)).symm.trans (own_eqv hn45a)
  have xs_TYPES_name_value_3 := (own_elt es_TYPES_name_value As_TYPES_name_value (i := 3) (by decide)).symm.trans (own_eqv hn46a)
  have xs_TYPES_name_value_4 := (own_elt es_TYPES_name_value As_TYPES_name_value (i := 4) (by decide)).symm.trans (own_eqv hn47a)
  have xs_LINKS_name_value_0 := (own_elt es_LINKS_name_value As_LINKS_name_value (i := 0) (by decide)).symm.trans (own_eqv hn48a)
  have xs_LINKS_name_value_1 := (own_elt es_LINKS_name_value As_LINKS_name_value (i := 1) (by decide)).symm.trans (own_eqv hn49a)
  have xs_LINKS_name_value_2 := (own_elt es_LINKS_name_value As_LINKS_name_value (i := 2) (by decide)).symm.trans (own_eqv hn50a)
  have xs_LINKS_name_value_3 := (own_elt es_LINKS_name_value As_LINKS_name_value (i := 3) (by decide)).symm.trans (own_eqv hn51a)
  have xs_LINKS_name_value_4 := (own_elt es_LINKS_name_value As_LINKS_name_value (i := 4) (by decide)).symm.trans (own_eqv hn51b)
  have Bs_VALUES : Av s s.heap s_VALUES (.object "com/example/iskati/iskati/entity/EntityField") (4 : Int32) [(.ref s_NAMES), (.ref s_ATTRIBUTES), (.ref s_TYPES), (.ref s_LINKS)] .null := ⟨_, Arv.start hfit As_VALUES lqs_VALUES les_VALUES (by decide) rfl ⟨xs_VALUES_0, xs_VALUES_1, xs_VALUES_2, xs_VALUES_3, trivial⟩⟩
  have Bs_NAMES_name_value : Av s s.heap s_NAMES_name_value .byte (5 : Int32) (own_vs own_L1) (.int (0 : Int32)) := ⟨_, Arv.start hfit As_NAMES_name_value lqs_NAMES_name_value les_NAMES_name_value (by decide) rfl ⟨xs_NAMES_name_value_0, xs_NAMES_name_value_1, xs_NAMES_name_value_2, xs_NAMES_name_value_3, xs_NAMES_name_value_4, trivial⟩⟩
  have Bs_ATTRIBUTES_name_value : Av s s.heap s_ATTRIBUTES_name_value .byte (10 : Int32) (own_vs own_L2) (.int (0 : Int32)) := ⟨_, Arv.start hfit As_ATTRIBUTES_name_value lqs_ATTRIBUTES_name_value les_ATTRIBUTES_name_value (by decide) rfl ⟨xs_ATTRIBUTES_name_value_0, xs_ATTRIBUTES_name_value_1, xs_ATTRIBUTES_name_value_2, xs_ATTRIBUTES_name_value_3, xs_ATTRIBUTES_name_value_4, xs_ATTRIBUTES_name_value_5, xs_ATTRIBUTES_name_value_6, xs_ATTRIBUTES_name_value_7, xs_ATTRIBUTES_name_value_8, xs_ATTRIBUTES_name_value_9, trivial⟩⟩
  have Bs_TYPES_name_value : Av s s.heap s_TYPES_name_value .byte (5 : Int32) (own_vs own_L3) (.int (0 : Int32)) := ⟨_, Arv.start hfit As_TYPES_name_value lqs_TYPES_name_value les_TYPES_name_value (by decide) rfl ⟨xs_TYPES_name_value_0, xs_TYPES_name_value_1, xs_TYPES_name_value_2, xs_TYPES_name_value_3, xs_TYPES_name_value_4, trivial⟩⟩
  have Bs_LINKS_name_value : Av s s.heap s_LINKS_name_value .byte (5 : Int32) (own_vs own_L4) (.int (0 : Int32)) := ⟨_, Arv.start hfit As_LINKS_name_value lqs_LINKS_name_value les_LINKS_name_value (by decide) rfl ⟨xs_LINKS_name_value_0, xs_LINKS_name_value_1, xs_LINKS_name_value_2, xs_LINKS_name_value_3, xs_LINKS_name_value_4, trivial⟩⟩
  obtain ⟨cs, ecs⟩ := is_v (Cond.before_iff.mp (hsets _ (List.mem_of_getElem? (i := 1) rfl)))
  have S_cs : Sta s s.heap "java/lang/String" "COMPACT_STRINGS" "Z" (.int cs) := Sta.start ecs (Or.inl (hsets _ (List.mem_of_getElem? (i := 0) rfl)))
  have hcs := own_nz (Cond.before_iff.mp (hsets _ (List.mem_of_getElem? (i := 2) rfl))) ecs
  obtain ⟨n, o, h1, h2, h3, _, L, rfl, ⟨rfl, N, -⟩, hq⟩ := rm0 l s _ hw tables_1 i0 i1 i2 i3 s_NAMES s_VALUES s_ATTRIBUTES s_TYPES s_LINKS s_NAMES_name s_NAMES_name_value s_ATTRIBUTES_name s_ATTRIBUTES_name_value s_TYPES_name s_TYPES_name_value s_LINKS_name s_LINKS_name_value cs s.heap s.heap.size (Nat.le_refl _) (Old.start s) Ss_NAMES Es_NAMES Ss_VALUES Es_VALUES Ss_ATTRIBUTES Es_ATTRIBUTES Ss_TYPES Es_TYPES Ss_LINKS Es_LINKS Fs_NAMES_name Es_NAMES_name Fs_NAMES_name_coder Fs_NAMES_name_value Fs_ATTRIBUTES_name Es_ATTRIBUTES_name Fs_ATTRIBUTES_name_coder Fs_ATTRIBUTES_name_value Fs_TYPES_name Es_TYPES_name Fs_TYPES_name_coder Fs_TYPES_name_value Fs_LINKS_name Es_LINKS_name Fs_LINKS_name_coder Fs_LINKS_name_value Bs_VALUES Bs_NAMES_name_value Bs_ATTRIBUTES_name_value Bs_TYPES_name_value Bs_LINKS_name_value S_cs hcs p e ha hc hk s m _ below hf ((Spec.applies_iff_loose hf).mp happ).1 ⟨rfl, State.Warmed39.refl s, rfl, CHv.start (own_EW hw) hcalls.1 (hsets _ (List.mem_of_getElem? (i := 2) rfl)) (hw _ (by decide +kernel)) (hw _ (List.mem_of_getElem? (i := 1) rfl))⟩ trivial
  refine ⟨n, _, h1, h2, h3, hpost _ _ _ _ _ _ ⟨Cond.after_iff.mpr rfl, Cond.after_iff.mpr (eq_i res_at (Term.int_eval (1)) rfl), trivial⟩ ⟨⟨_, rfl⟩, hq.1, hq.2.1, (hq.2.2.sift fun y hy => Or.inr (N y hy)).mono (by decide) (by decide)⟩⟩
theorem main_1_1 : Claimed_1_1 := comes_1 fun _ _ _ _ _ _ h hF => ⟨h.1, hF⟩
theorem main_1_2 : Claimed_1_2 := comes_1 fun _ _ _ _ _ _ h hF => ⟨h.2.1, hF⟩
end Jvm.Pilot.@@N@@
namespace Jvm.Pilot.@@N@@
open Jvm Jvm.ClassFile Sem Op Lib Jvm.Free Jvm.Stand Jvm.Pilot.@@N@@.Jvm.D
/-! MADE BY PROGRAM (witnessworld.py) out of the Statement's table words and the real class files: 22 classes; the members and pool entries that the words name. The judged class is class 1, her method 1. -/
namespace start1
open Jvm.ClassFile
def u (s : String) : CpInfo := .utf8 (stringToUtf16 s)
/-- a pool by its gaps: so many unusable entries, then the entry; so many at the end -/
def gap : Nat → List CpInfo → List CpInfo
  | 0, r => r
  | n + 1, r => .unusable :: gap n r
def poolList (es : List (Nat × CpInfo)) (last : Nat) : List CpInfo := es.foldr (fun e r => gap e.1 (e.2 :: r)) (gap last [])
def pool (es : List (Nat × CpInfo)) (last : Nat) : Array CpInfo := ⟨poolList es last⟩
def fileOf (pool : Array CpInfo) (this : Nat) (attrs : Array Attribute := #[]) (ms : Array MethodInfo := #[]) (fl : Nat := 33) (sup : Nat := 0) (ifs : Array Nat := #[]) (fds : Array FieldInfo := #[]) : ClassFile where
  minorVersion := 0
  majorVersion := 65
  constantPool := pool
  accessFlags := fl
  thisClass := this
  superClass := sup
  interfaces := ifs
  fields := fds
  methods := ms
  attributes := attrs
def plain (name : String) (sup : Option ClassId) : Class where
  name := name
  kind := .ordinary
  loader := none
  accessFlags := 33
  super := sup
  interfaces := #[]
  cf := none
  fields := #[]
  methods := #[]
  instanceTypes := #[]
  staticTypes := #[]
  resolved := #[]
  callSites := []
  init := .initialized
  statics := none
  mirror := none

def pool0 : Array CpInfo := pool [(5, u "<init>"), (0, u "()V"), (1, .class_ 10), (1, u "java/lang/Object"), (85, u "clone"), (0, u "()Ljava/lang/Object;")] 26

def k0c0 : Code := { maxStack := 0, maxLocals := 1, code := object_method_1_code, exceptionTable := #[], attributes := #[] }
def k0m0 : Method := { name := "<init>", desc := "()V", sig := { parameters := [], returnType := none }, accessFlags := 1, code := some k0c0 }
def k0m1 : Method := { name := "clone", desc := "()Ljava/lang/Object;", sig := { parameters := [], returnType := some (.object "java/lang/Object") }, accessFlags := 260, code := none }
/-- java/lang/Object -/
def k0 : Class := { plain "java/lang/Object" none with
  accessFlags := 33
  interfaces := #[]
  cf := some (fileOf pool0 8 #[] #[{ accessFlags := 1, nameIndex := 5, descriptorIndex := 6, attributes := #[] }, { accessFlags := 260, nameIndex := 96, descriptorIndex := 97, attributes := #[] }] 33 0 #[] #[])
  fields := #[]
  methods := #[k0m0, k0m1]
  instanceTypes := #[]
  staticTypes := #[]
  resolved := Array.replicate 124 none
  statics := none }

def pool1 : Array CpInfo := pool [(2, .class_ 4), (1, u "java/lang/Object"), (0, u "<init>"), (0, u "()V"), (0, .class_ 8), (0, u "java/lang/String"), (0, .methodref 10 11), (0, .class_ 12), (0, .nameAndType 13 14), (0, u "com/example/iskati/iskati/entity/EntityFieldNamedPinLaw"), (0, u "baseOf"), (0, u "(I)[C"), (0, .methodref 7 16), (0, .nameAndType 5 17), (0, u "([C)V"), (0, .integer 2147483647), (0, .methodref 10 20), (0, .nameAndType 21 14), (0, u "shortOf"), (0, .methodref 10 23), (0, .nameAndType 24 25), (0, u "longOf"), (0, u "(IC)[C"), (0, .string 27), (0, u ""), (0, .methodref 7 29), (0, .nameAndType 30 31), (0, u "valueOf"), (0, u "(C)Ljava/lang/String;"), (0, .methodref 10 33), (0, .nameAndType 34 35), (0, u "expected"), (0, u "(Ljava/lang/String;)Lcom/example/iskati/iskati/entity/EntityField;"), (0, .methodref 37 38), (0, .class_ 39), (0, .nameAndType 40 35), (0, u "com/example/iskati/iskati/entity/EntityField"), (0, u "named"), (0, .string 42), (0, u "names"), (0, .methodref 7 44), (0, .nameAndType 45 46), (0, u "equals"), (0, u "(Ljava/lang/Object;)Z"), (0, .fieldref 37 48), (0, .nameAndType 49 50), (0, u "NAMES"), (0, u "Lcom/example/iskati/iskati/entity/EntityField;"), (0, .string 52), (0, u "attributes"), (0, .fieldref 37 54), (0, .nameAndType 55 50), (0, u "ATTRIBUTES"), (0, .string 57), (0, u "types"), (0, .fieldref 37 59), (0, .nameAndType 60 50), (0, u "TYPES"), (0, .string 62), (0, u "links"), (0, .fieldref 37 64), (0, .nameAndType 65 50), (0, u "LINKS"), (2, u "law"), (0, u "(IIII)Z")] 3

def k1m0 : Method := { name := "<init>", desc := "()V", sig := { parameters := [], returnType := none }, accessFlags := 1, code := none }
def k1c1 : Code := { maxStack := 6, maxLocals := 11, code := code, exceptionTable := #[], attributes := #[] }
def k1m1 : Method := { name := "law", desc := "(IIII)Z", sig := { parameters := [.int, .int, .int, .int], returnType := some .boolean }, accessFlags := 9, code := some k1c1 }
def k1c2 : Code := { maxStack := 2, maxLocals := 1, code := method_3_code, exceptionTable := #[], attributes := #[] }
def k1m2 : Method := { name := "expected", desc := "(Ljava/lang/String;)Lcom/example/iskati/iskati/entity/EntityField;", sig := { parameters := [(.object "java/lang/String")], returnType := some (.object "com/example/iskati/iskati/entity/EntityField") }, accessFlags := 10, code := some k1c2 }
def k1c3 : Code := { maxStack := 4, maxLocals := 1, code := method_4_code, exceptionTable := #[], attributes := #[] }
def k1m3 : Method := { name := "baseOf", desc := "(I)[C", sig := { parameters := [.int], returnType := some (.array .char) }, accessFlags := 10, code := some k1c3 }
def k1c4 : Code := { maxStack := 4, maxLocals := 1, code := method_5_code, exceptionTable := #[], attributes := #[] }
def k1m4 : Method := { name := "shortOf", desc := "(I)[C", sig := { parameters := [.int], returnType := some (.array .char) }, accessFlags := 10, code := some k1c4 }
def k1c5 : Code := { maxStack := 4, maxLocals := 2, code := method_6_code, exceptionTable := #[], attributes := #[] }
def k1m5 : Method := { name := "longOf", desc := "(IC)[C", sig := { parameters := [.int, .char], returnType := some (.array .char) }, accessFlags := 10, code := some k1c5 }
/-- com/example/iskati/iskati/entity/EntityFieldNamedPinLaw -/
def k1 : Class := { plain "com/example/iskati/iskati/entity/EntityFieldNamedPinLaw" (some 0) with
  accessFlags := 49
  interfaces := #[]
  cf := some (fileOf pool1 10 #[] #[{ accessFlags := 1, nameIndex := 5, descriptorIndex := 6, attributes := #[] }, { accessFlags := 9, nameIndex := 68, descriptorIndex := 69, attributes := #[] }, { accessFlags := 10, nameIndex := 34, descriptorIndex := 35, attributes := #[] }, { accessFlags := 10, nameIndex := 13, descriptorIndex := 14, attributes := #[] }, { accessFlags := 10, nameIndex := 21, descriptorIndex := 14, attributes := #[] }, { accessFlags := 10, nameIndex := 24, descriptorIndex := 25, attributes := #[] }] 49 2 #[] #[])
  fields := #[]
  methods := #[k1m0, k1m1, k1m2, k1m3, k1m4, k1m5]
  instanceTypes := #[]
  staticTypes := #[]
  resolved := Array.replicate 73 none
  statics := none }

def pool2 : Array CpInfo := pool [(1, .class_ 2), (0, u "java/io/Serializable"), (0, .class_ 4), (0, u "java/lang/Object")] 2

/-- java/io/Serializable -/
def k2 : Class := { plain "java/io/Serializable" (some 0) with
  accessFlags := 1537
  interfaces := #[]
  cf := some (fileOf pool2 1 #[] #[] 1537 3 #[] #[])
  fields := #[]
  methods := #[]
  instanceTypes := #[]
  staticTypes := #[]
  resolved := Array.replicate 7 none
  statics := none }

def pool3 : Array CpInfo := pool [(1, .class_ 2), (0, u "java/lang/Comparable"), (0, .class_ 4), (0, u "java/lang/Object")] 7

/-- java/lang/Comparable -/
def k3 : Class := { plain "java/lang/Comparable" (some 0) with
  accessFlags := 1537
  interfaces := #[]
  cf := some (fileOf pool3 1 #[] #[] 1537 3 #[] #[])
  fields := #[]
  methods := #[]
  instanceTypes := #[]
  staticTypes := #[]
  resolved := Array.replicate 12 none
  statics := none }

def pool4 : Array CpInfo := pool [(2, .class_ 4), (1, u "java/lang/CharSequence"), (42, .class_ 48), (0, u "java/lang/CharSequence$1CodePointIterator"), (10, .class_ 60), (0, u "java/lang/CharSequence$1CharIterator"), (5, .class_ 67), (0, u "java/lang/Object")] 63

/-- java/lang/CharSequence -/
def k4 : Class := { plain "java/lang/CharSequence" (some 0) with
  accessFlags := 1537
  interfaces := #[]
  cf := some (fileOf pool4 2 #[.nestMembers #[47, 59]] #[] 1537 66 #[] #[])
  fields := #[]
  methods := #[]
  instanceTypes := #[]
  staticTypes := #[]
  resolved := Array.replicate 131 none
  statics := none }

def pool5 : Array CpInfo := pool [(1, .class_ 2), (0, u "java/lang/constant/Constable"), (0, .class_ 4), (0, u "java/lang/Object")] 6

/-- java/lang/constant/Constable -/
def k5 : Class := { plain "java/lang/constant/Constable" (some 0) with
  accessFlags := 1537
  interfaces := #[]
  cf := some (fileOf pool5 1 #[] #[] 1537 3 #[] #[])
  fields := #[]
  methods := #[]
  instanceTypes := #[]
  staticTypes := #[]
  resolved := Array.replicate 11 none
  statics := none }

def pool6 : Array CpInfo := pool [(1, .class_ 2), (0, u "java/lang/constant/ConstantDesc"), (0, .class_ 4), (0, u "java/lang/Object")] 32

/-- java/lang/constant/ConstantDesc -/
def k6 : Class := { plain "java/lang/constant/ConstantDesc" (some 0) with
  accessFlags := 1537
  interfaces := #[]
  cf := some (fileOf pool6 1 #[] #[] 1537 3 #[] #[])
  fields := #[]
  methods := #[]
  instanceTypes := #[]
  staticTypes := #[]
  resolved := Array.replicate 37 none
  statics := none }

def pool7 : Array CpInfo := pool [(1, .methodref 2 3), (0, .class_ 4), (0, .nameAndType 5 6), (0, u "java/lang/Object"), (0, u "<init>"), (0, u "()V"), (2, .fieldref 10 11), (0, .class_ 12), (0, .nameAndType 13 14), (0, u "java/lang/String"), (0, u "value"), (0, u "[B"), (0, .fieldref 10 16), (0, .nameAndType 17 18), (0, u "coder"), (0, u "B"), (2, u "hash"), (0, u "I"), (2, u "hashIsZero"), (0, u "Z"), (0, .methodref 10 28), (0, .nameAndType 5 29), (0, u "([CIILjava/lang/Void;)V"), (8, .fieldref 10 39), (0, .nameAndType 40 26), (0, u "COMPACT_STRINGS"), (1, .class_ 44), (1, u "java/lang/StringUTF16"), (0, u "compress"), (1, .methodref 42 48), (0, .nameAndType 49 50), (0, u "coderFromArrayLen"), (0, u "([BI)B"), (2, u "toBytes"), (53, .class_ 109), (1, u "java/lang/StringLatin1"), (67, .methodref 42 178), (0, .nameAndType 45 179), (0, u "([CII)[B"), (29, .methodref 10 210), (0, .nameAndType 5 211), (0, u "([BB)V"), (157, u "(C)Z"), (171, .methodref 107 542), (0, .nameAndType 543 544), (0, u "equals"), (0, u "([B[B)Z"), (28, u "(Ljava/lang/Object;)Z"), (1, .class_ 576), (0, u "java/lang/CharSequence"), (22, u "CASE_INSENSITIVE_ORDER"), (0, u "Ljava/util/Comparator;"), (181, u "valueOf"), (0, u "(C)Ljava/lang/String;"), (226, u "([C)V"), (4, .methodref 107 1016), (0, .nameAndType 1017 369), (0, u "canEncode"), (0, .methodref 107 1019), (0, .nameAndType 53 1020), (0, u "(C)[B"), (80, u "serialPersistentFields"), (0, u "[Ljava/io/ObjectStreamField;"), (0, .class_ 1104), (0, u "java/lang/String$CaseInsensitiveComparator"), (1, .class_ 1107), (0, u "java/io/Serializable"), (0, .class_ 1109), (0, u "java/lang/Comparable"), (0, .class_ 1111), (0, u "java/lang/constant/Constable"), (0, .class_ 1113), (0, u "java/lang/constant/ConstantDesc"), (2, u "serialVersionUID"), (0, u "J"), (3, u "REPL"), (0, u "C"), (2, u "LATIN1"), (1, u "UTF16")] 323

def k7m0 : Method := { name := "<init>", desc := "()V", sig := { parameters := [], returnType := none }, accessFlags := 1, code := none }
def k7c1 : Code := { maxStack := 5, maxLocals := 2, code := jdk_42_method_3_code, exceptionTable := #[], attributes := #[] }
def k7m1 : Method := { name := "<init>", desc := "([C)V", sig := { parameters := [(.array .char)], returnType := none }, accessFlags := 1, code := some k7c1 }
def k7c2 : Code := { maxStack := 2, maxLocals := 3, code := jdk_42_method_66_code, exceptionTable := #[], attributes := #[] }
def k7m2 : Method := { name := "equals", desc := "(Ljava/lang/Object;)Z", sig := { parameters := [(.object "java/lang/Object")], returnType := some .boolean }, accessFlags := 1, code := some k7c2 }
def k7c3 : Code := { maxStack := 4, maxLocals := 1, code := jdk_42_method_139_code, exceptionTable := #[], attributes := #[] }
def k7m3 : Method := { name := "valueOf", desc := "(C)Ljava/lang/String;", sig := { parameters := [.char], returnType := some (.object "java/lang/String") }, accessFlags := 9, code := some k7c3 }
def k7c4 : Code := { maxStack := 4, maxLocals := 6, code := jdk_42_method_149_code, exceptionTable := #[], attributes := #[] }
def k7m4 : Method := { name := "<init>", desc := "([CIILjava/lang/Void;)V", sig := { parameters := [(.array .char), .int, .int, (.object "java/lang/Void")], returnType := none }, accessFlags := 2, code := some k7c4 }
def k7c5 : Code := { maxStack := 2, maxLocals := 3, code := jdk_42_method_151_code, exceptionTable := #[], attributes := #[] }
def k7m5 : Method := { name := "<init>", desc := "([BB)V", sig := { parameters := [(.array .byte), .byte], returnType := none }, accessFlags := 0, code := some k7c5 }
/-- java/lang/String -/
def k7 : Class := { plain "java/lang/String" (some 0) with
  accessFlags := 49
  interfaces := #[2, 3, 4, 5, 6]
  cf := some (fileOf pool7 10 #[.nestMembers #[1103]] #[{ accessFlags := 1, nameIndex := 5, descriptorIndex := 6, attributes := #[] }, { accessFlags := 1, nameIndex := 5, descriptorIndex := 1010, attributes := #[] }, { accessFlags := 1, nameIndex := 543, descriptorIndex := 573, attributes := #[] }, { accessFlags := 9, nameIndex := 782, descriptorIndex := 783, attributes := #[] }, { accessFlags := 2, nameIndex := 5, descriptorIndex := 29, attributes := #[] }, { accessFlags := 0, nameIndex := 5, descriptorIndex := 211, attributes := #[] }] 49 2 #[1106, 1108, 575, 1110, 1112] #[{ accessFlags := 18, nameIndex := 13, descriptorIndex := 14, attributes := #[] }, { accessFlags := 18, nameIndex := 17, descriptorIndex := 18, attributes := #[] }, { accessFlags := 2, nameIndex := 21, descriptorIndex := 22, attributes := #[] }, { accessFlags := 2, nameIndex := 25, descriptorIndex := 26, attributes := #[] }, { accessFlags := 26, nameIndex := 1116, descriptorIndex := 1117, attributes := #[] }, { accessFlags := 24, nameIndex := 40, descriptorIndex := 26, attributes := #[] }, { accessFlags := 26, nameIndex := 1101, descriptorIndex := 1102, attributes := #[] }, { accessFlags := 26, nameIndex := 1121, descriptorIndex := 1122, attributes := #[] }, { accessFlags := 25, nameIndex := 599, descriptorIndex := 600, attributes := #[] }, { accessFlags := 24, nameIndex := 1125, descriptorIndex := 18, attributes := #[] }, { accessFlags := 24, nameIndex := 1127, descriptorIndex := 18, attributes := #[] }])
  fields := #[{ name := "value", type := (.array .byte), accessFlags := 18, slot := 0, constantValue := 0 }, { name := "coder", type := .byte, accessFlags := 18, slot := 1, constantValue := 0 }, { name := "hash", type := .int, accessFlags := 2, slot := 2, constantValue := 0 }, { name := "hashIsZero", type := .boolean, accessFlags := 2, slot := 3, constantValue := 0 }, { name := "serialVersionUID", type := .long, accessFlags := 26, slot := 0, constantValue := 0 }, { name := "COMPACT_STRINGS", type := .boolean, accessFlags := 24, slot := 1, constantValue := 0 }, { name := "serialPersistentFields", type := (.array (.object "java/io/ObjectStreamField")), accessFlags := 26, slot := 2, constantValue := 0 }, { name := "REPL", type := .char, accessFlags := 26, slot := 3, constantValue := 0 }, { name := "CASE_INSENSITIVE_ORDER", type := (.object "java/util/Comparator"), accessFlags := 25, slot := 4, constantValue := 0 }, { name := "LATIN1", type := .byte, accessFlags := 24, slot := 5, constantValue := 0 }, { name := "UTF16", type := .byte, accessFlags := 24, slot := 6, constantValue := 0 }]
  methods := #[k7m0, k7m1, k7m2, k7m3, k7m4, k7m5]
  instanceTypes := #[(.array .byte), .byte, .int, .boolean]
  staticTypes := #[.long, .boolean, (.array (.object "java/io/ObjectStreamField")), .char, (.object "java/util/Comparator"), .byte, .byte]
  resolved := Array.replicate 1451 none
  statics := some 0 }

def pool8 : Array CpInfo := pool [(6, .class_ 8), (1, u "java/lang/Object"), (0, u "<init>"), (0, u "()V"), (1, .class_ 14), (1, u "java/lang/StringUTF16"), (31, u "$assertionsDisabled"), (0, u "Z"), (13, u "HI_BYTE_SHIFT"), (0, u "I"), (2, u "LO_BYTE_SHIFT"), (49, .methodref 12 116), (0, .nameAndType 117 118), (0, u "compress"), (0, u "([CI[BII)I"), (3, u "([CII)[B"), (138, u "coderFromArrayLen"), (0, u "([BI)B"), (106, .class_ 371), (1, u "java/lang/StringUTF16$LinesSpliterator"), (58, u "MAX_LENGTH"), (196, .class_ 628), (0, u "java/lang/StringUTF16$CodePointsSpliterator"), (0, .class_ 630), (0, u "java/lang/StringUTF16$CharsSpliterator")] 4

def k8m0 : Method := { name := "<init>", desc := "()V", sig := { parameters := [], returnType := none }, accessFlags := 0, code := none }
def k8c1 : Code := { maxStack := 2, maxLocals := 2, code := jdk_52_method_15_code, exceptionTable := #[], attributes := #[] }
def k8m1 : Method := { name := "coderFromArrayLen", desc := "([BI)B", sig := { parameters := [(.array .byte), .int], returnType := some .byte }, accessFlags := 8, code := some k8c1 }
def k8c2 : Code := { maxStack := 5, maxLocals := 6, code := jdk_52_method_16_code, exceptionTable := #[], attributes := #[] }
def k8m2 : Method := { name := "compress", desc := "([CII)[B", sig := { parameters := [(.array .char), .int, .int], returnType := some (.array .byte) }, accessFlags := 9, code := some k8c2 }
def k8c3 : Code := { maxStack := 3, maxLocals := 7, code := jdk_52_method_21_code, exceptionTable := #[], attributes := #[] }
def k8m3 : Method := { name := "compress", desc := "([CI[BII)I", sig := { parameters := [(.array .char), .int, (.array .byte), .int, .int], returnType := some .int }, accessFlags := 9, code := some k8c3 }
/-- java/lang/StringUTF16 -/
def k8 : Class := { plain "java/lang/StringUTF16" (some 0) with
  accessFlags := 48
  interfaces := #[]
  cf := some (fileOf pool8 12 #[.nestMembers #[627, 629, 369]] #[{ accessFlags := 0, nameIndex := 9, descriptorIndex := 10, attributes := #[] }, { accessFlags := 8, nameIndex := 261, descriptorIndex := 262, attributes := #[] }, { accessFlags := 9, nameIndex := 117, descriptorIndex := 122, attributes := #[] }, { accessFlags := 9, nameIndex := 117, descriptorIndex := 118, attributes := #[] }] 48 6 #[] #[{ accessFlags := 26, nameIndex := 61, descriptorIndex := 62, attributes := #[] }, { accessFlags := 26, nameIndex := 65, descriptorIndex := 62, attributes := #[] }, { accessFlags := 24, nameIndex := 430, descriptorIndex := 62, attributes := #[] }, { accessFlags := 4120, nameIndex := 46, descriptorIndex := 47, attributes := #[] }])
  fields := #[{ name := "HI_BYTE_SHIFT", type := .int, accessFlags := 26, slot := 0, constantValue := 0 }, { name := "LO_BYTE_SHIFT", type := .int, accessFlags := 26, slot := 1, constantValue := 0 }, { name := "MAX_LENGTH", type := .int, accessFlags := 24, slot := 2, constantValue := 0 }, { name := "$assertionsDisabled", type := .boolean, accessFlags := 4120, slot := 3, constantValue := 0 }]
  methods := #[k8m0, k8m1, k8m2, k8m3]
  instanceTypes := #[]
  staticTypes := #[.int, .int, .int, .boolean]
  resolved := Array.replicate 635 none
  statics := none }

def pool9 : Array CpInfo := pool [(4, .class_ 6), (1, u "java/lang/Object"), (0, u "<init>"), (0, u "()V"), (5, .class_ 16), (1, u "java/lang/StringLatin1"), (73, u "canEncode"), (14, u "(C)Z"), (15, u "$assertionsDisabled"), (0, u "Z"), (98, .class_ 223), (1, u "java/lang/StringLatin1$LinesSpliterator"), (57, u "equals"), (0, u "([B[B)Z"), (97, u "toBytes"), (1, u "(C)[B"), (7, .class_ 391), (0, u "java/lang/StringLatin1$CharsSpliterator")] 3

def k9m0 : Method := { name := "<init>", desc := "()V", sig := { parameters := [], returnType := none }, accessFlags := 0, code := none }
def k9c1 : Code := { maxStack := 2, maxLocals := 1, code := jdk_43_method_3_code, exceptionTable := #[], attributes := #[] }
def k9m1 : Method := { name := "canEncode", desc := "(C)Z", sig := { parameters := [.char], returnType := some .boolean }, accessFlags := 9, code := some k9c1 }
def k9c2 : Code := { maxStack := 3, maxLocals := 3, code := jdk_43_method_13_code, exceptionTable := #[], attributes := #[] }
def k9m2 : Method := { name := "equals", desc := "([B[B)Z", sig := { parameters := [(.array .byte), (.array .byte)], returnType := some .boolean }, accessFlags := 9, code := some k9c2 }
def k9c3 : Code := { maxStack := 4, maxLocals := 1, code := jdk_43_method_46_code, exceptionTable := #[], attributes := #[] }
def k9m3 : Method := { name := "toBytes", desc := "(C)[B", sig := { parameters := [.char], returnType := some (.array .byte) }, accessFlags := 9, code := some k9c3 }
/-- java/lang/StringLatin1 -/
def k9 : Class := { plain "java/lang/StringLatin1" (some 0) with
  accessFlags := 48
  interfaces := #[]
  cf := some (fileOf pool9 14 #[.nestMembers #[390, 221]] #[{ accessFlags := 0, nameIndex := 7, descriptorIndex := 8, attributes := #[] }, { accessFlags := 9, nameIndex := 90, descriptorIndex := 105, attributes := #[] }, { accessFlags := 9, nameIndex := 281, descriptorIndex := 282, attributes := #[] }, { accessFlags := 9, nameIndex := 380, descriptorIndex := 382, attributes := #[] }] 48 4 #[] #[{ accessFlags := 4120, nameIndex := 121, descriptorIndex := 122, attributes := #[] }])
  fields := #[{ name := "$assertionsDisabled", type := .boolean, accessFlags := 4120, slot := 0, constantValue := 0 }]
  methods := #[k9m0, k9m1, k9m2, k9m3]
  instanceTypes := #[]
  staticTypes := #[.boolean]
  resolved := Array.replicate 395 none
  statics := none }

def pool10 : Array CpInfo := pool [(2, .class_ 4), (1, u "java/lang/Enum"), (0, u "name"), (0, u "Ljava/lang/String;"), (2, u "ordinal"), (0, u "I"), (1, .class_ 14), (1, u "java/lang/Object"), (4, u "hash"), (86, .class_ 108), (1, u "java/lang/Enum$EnumDesc"), (2, .class_ 112), (0, u "java/lang/constant/Constable"), (0, .class_ 114), (0, u "java/lang/Comparable"), (0, .class_ 116), (0, u "java/io/Serializable")] 87

/-- java/lang/Enum -/
def k10 : Class := { plain "java/lang/Enum" (some 0) with
  accessFlags := 1057
  interfaces := #[5, 3, 2]
  cf := some (fileOf pool10 2 #[.nestMembers #[106]] #[] 1057 12 #[111, 113, 115] #[{ accessFlags := 18, nameIndex := 5, descriptorIndex := 6, attributes := #[] }, { accessFlags := 18, nameIndex := 9, descriptorIndex := 10, attributes := #[] }, { accessFlags := 2, nameIndex := 19, descriptorIndex := 10, attributes := #[] }])
  fields := #[{ name := "name", type := (.object "java/lang/String"), accessFlags := 18, slot := 0, constantValue := 0 }, { name := "ordinal", type := .int, accessFlags := 18, slot := 1, constantValue := 0 }, { name := "hash", type := .int, accessFlags := 2, slot := 2, constantValue := 0 }]
  methods := #[]
  instanceTypes := #[(.object "java/lang/String"), .int, .int]
  staticTypes := #[]
  resolved := Array.replicate 204 none
  statics := none }

def pool11 : Array CpInfo := pool [(1, .class_ 2), (0, u "com/example/iskati/iskati/entity/EntityField"), (2, u "NAMES"), (0, u "Lcom/example/iskati/iskati/entity/EntityField;"), (2, u "ATTRIBUTES"), (2, u "TYPES"), (2, u "LINKS"), (0, .fieldref 1 17), (0, .nameAndType 18 19), (0, u "$VALUES"), (0, u "[Lcom/example/iskati/iskati/entity/EntityField;"), (0, .methodref 21 22), (0, .class_ 19), (0, .nameAndType 23 24), (0, u "clone"), (0, u "()Ljava/lang/Object;"), (1, .class_ 28), (1, u "java/lang/Enum"), (6, .fieldref 1 36), (0, .nameAndType 37 38), (0, u "name"), (0, u "Ljava/lang/String;"), (0, .methodref 1 40), (0, .nameAndType 41 42), (0, u "values"), (0, u "()[Lcom/example/iskati/iskati/entity/EntityField;"), (0, .methodref 44 45), (0, .class_ 46), (0, .nameAndType 47 48), (0, u "java/lang/String"), (0, u "equals"), (0, u "(Ljava/lang/Object;)Z"), (20, u "(Ljava/lang/String;)Lcom/example/iskati/iskati/entity/EntityField;"), (5, u "named")] 6

def k11c0 : Code := { maxStack := 1, maxLocals := 0, code := prog_4_method_1_code, exceptionTable := #[], attributes := #[] }
def k11m0 : Method := { name := "values", desc := "()[Lcom/example/iskati/iskati/entity/EntityField;", sig := { parameters := [], returnType := some (.array (.object "com/example/iskati/iskati/entity/EntityField")) }, accessFlags := 9, code := some k11c0 }
def k11c1 : Code := { maxStack := 2, maxLocals := 5, code := prog_4_method_5_code, exceptionTable := #[], attributes := #[] }
def k11m1 : Method := { name := "named", desc := "(Ljava/lang/String;)Lcom/example/iskati/iskati/entity/EntityField;", sig := { parameters := [(.object "java/lang/String")], returnType := some (.object "com/example/iskati/iskati/entity/EntityField") }, accessFlags := 9, code := some k11c1 }
/-- com/example/iskati/iskati/entity/EntityField -/
def k11 : Class := { plain "com/example/iskati/iskati/entity/EntityField" (some 10) with
  accessFlags := 16433
  interfaces := #[]
  cf := some (fileOf pool11 1 #[] #[{ accessFlags := 9, nameIndex := 41, descriptorIndex := 42, attributes := #[] }, { accessFlags := 9, nameIndex := 75, descriptorIndex := 69, attributes := #[] }] 16433 26 #[] #[{ accessFlags := 16409, nameIndex := 5, descriptorIndex := 6, attributes := #[] }, { accessFlags := 16409, nameIndex := 9, descriptorIndex := 6, attributes := #[] }, { accessFlags := 16409, nameIndex := 12, descriptorIndex := 6, attributes := #[] }, { accessFlags := 16409, nameIndex := 15, descriptorIndex := 6, attributes := #[] }, { accessFlags := 18, nameIndex := 37, descriptorIndex := 38, attributes := #[] }, { accessFlags := 4122, nameIndex := 18, descriptorIndex := 19, attributes := #[] }])
  fields := #[{ name := "NAMES", type := (.object "com/example/iskati/iskati/entity/EntityField"), accessFlags := 16409, slot := 0, constantValue := 0 }, { name := "ATTRIBUTES", type := (.object "com/example/iskati/iskati/entity/EntityField"), accessFlags := 16409, slot := 1, constantValue := 0 }, { name := "TYPES", type := (.object "com/example/iskati/iskati/entity/EntityField"), accessFlags := 16409, slot := 2, constantValue := 0 }, { name := "LINKS", type := (.object "com/example/iskati/iskati/entity/EntityField"), accessFlags := 16409, slot := 3, constantValue := 0 }, { name := "name", type := (.object "java/lang/String"), accessFlags := 18, slot := 3, constantValue := 0 }, { name := "$VALUES", type := (.array (.object "com/example/iskati/iskati/entity/EntityField")), accessFlags := 4122, slot := 4, constantValue := 0 }]
  methods := #[k11m0, k11m1]
  instanceTypes := #[(.object "java/lang/String"), .int, .int, (.object "java/lang/String")]
  staticTypes := #[(.object "com/example/iskati/iskati/entity/EntityField"), (.object "com/example/iskati/iskati/entity/EntityField"), (.object "com/example/iskati/iskati/entity/EntityField"), (.object "com/example/iskati/iskati/entity/EntityField"), (.array (.object "com/example/iskati/iskati/entity/EntityField"))]
  resolved := Array.replicate 82 none
  statics := some 1 }

def pool12 : Array CpInfo := pool [(1, .class_ 2), (0, u "java/lang/Cloneable"), (0, .class_ 4), (0, u "java/lang/Object")] 2

/-- java/lang/Cloneable -/
def k12 : Class := { plain "java/lang/Cloneable" (some 0) with
  accessFlags := 1537
  interfaces := #[]
  cf := some (fileOf pool12 1 #[] #[] 1537 3 #[] #[])
  fields := #[]
  methods := #[]
  instanceTypes := #[]
  staticTypes := #[]
  resolved := Array.replicate 7 none
  statics := none }

def pool13 : Array CpInfo := pool [(2, .class_ 4), (1, u "java/lang/Object"), (0, u "<init>"), (0, u "()V"), (17, .class_ 26), (1, u "jdk/internal/util/Preconditions"), (28, .class_ 56), (0, u "jdk/internal/util/Preconditions$4"), (57, .class_ 115), (0, u "jdk/internal/util/Preconditions$1"), (7, u "SIOOBE_FORMATTER"), (0, u "Ljava/util/function/BiFunction;"), (0, .class_ 126), (0, u "jdk/internal/util/Preconditions$2"), (3, u "AIOOBE_FORMATTER"), (0, .class_ 132), (0, u "jdk/internal/util/Preconditions$3"), (3, u "IOOBE_FORMATTER")] 57

def k13m0 : Method := { name := "<init>", desc := "()V", sig := { parameters := [], returnType := none }, accessFlags := 1, code := none }
/-- jdk/internal/util/Preconditions -/
def k13 : Class := { plain "jdk/internal/util/Preconditions" (some 0) with
  accessFlags := 33
  interfaces := #[]
  cf := some (fileOf pool13 24 #[.nestMembers #[55, 131, 125, 114]] #[{ accessFlags := 1, nameIndex := 5, descriptorIndex := 6, attributes := #[] }] 33 2 #[] #[{ accessFlags := 25, nameIndex := 123, descriptorIndex := 124, attributes := #[] }, { accessFlags := 25, nameIndex := 130, descriptorIndex := 124, attributes := #[] }, { accessFlags := 25, nameIndex := 136, descriptorIndex := 124, attributes := #[] }])
  fields := #[{ name := "SIOOBE_FORMATTER", type := (.object "java/util/function/BiFunction"), accessFlags := 25, slot := 0, constantValue := 0 }, { name := "AIOOBE_FORMATTER", type := (.object "java/util/function/BiFunction"), accessFlags := 25, slot := 1, constantValue := 0 }, { name := "IOOBE_FORMATTER", type := (.object "java/util/function/BiFunction"), accessFlags := 25, slot := 2, constantValue := 0 }]
  methods := #[k13m0]
  instanceTypes := #[]
  staticTypes := #[(.object "java/util/function/BiFunction"), (.object "java/util/function/BiFunction"), (.object "java/util/function/BiFunction")]
  resolved := Array.replicate 194 none
  statics := some 2 }

def pool14 : Array CpInfo := pool [(9, u "<init>"), (6, .class_ 18), (1, u "java/lang/Object"), (0, u "()V"), (1, .class_ 23), (1, u "jdk/internal/util/ArraysSupport"), (0, u "LOG2_ARRAY_LONG_INDEX_SCALE"), (0, u "I"), (2, u "U"), (0, u "Ljdk/internal/misc/Unsafe;"), (8, u "BIG_ENDIAN"), (0, u "Z"), (8, u "LOG2_BYTE_BIT_SIZE"), (4, u "LOG2_ARRAY_INT_INDEX_SCALE"), (54, u "JLA"), (0, u "Ljdk/internal/access/JavaLangAccess;"), (11, u "LOG2_ARRAY_BOOLEAN_INDEX_SCALE"), (9, u "LOG2_ARRAY_BYTE_INDEX_SCALE"), (5, u "LOG2_ARRAY_CHAR_INDEX_SCALE"), (5, u "LOG2_ARRAY_SHORT_INDEX_SCALE"), (18, u "LOG2_ARRAY_FLOAT_INDEX_SCALE"), (24, u "LOG2_ARRAY_DOUBLE_INDEX_SCALE"), (89, u "T_BOOLEAN"), (2, u "T_CHAR"), (1, u "T_FLOAT"), (1, u "T_DOUBLE"), (1, u "T_BYTE"), (1, u "T_SHORT"), (1, u "T_INT"), (1, u "T_LONG"), (1, u "SOFT_MAX_ARRAY_LENGTH")] 83

def k14m0 : Method := { name := "<init>", desc := "()V", sig := { parameters := [], returnType := none }, accessFlags := 2, code := none }
/-- jdk/internal/util/ArraysSupport -/
def k14 : Class := { plain "jdk/internal/util/ArraysSupport" (some 0) with
  accessFlags := 33
  interfaces := #[]
  cf := some (fileOf pool14 21 #[] #[{ accessFlags := 2, nameIndex := 9, descriptorIndex := 19, attributes := #[] }] 33 16 #[] #[{ accessFlags := 24, nameIndex := 28, descriptorIndex := 29, attributes := #[] }, { accessFlags := 26, nameIndex := 38, descriptorIndex := 39, attributes := #[] }, { accessFlags := 25, nameIndex := 121, descriptorIndex := 25, attributes := #[] }, { accessFlags := 25, nameIndex := 131, descriptorIndex := 25, attributes := #[] }, { accessFlags := 25, nameIndex := 137, descriptorIndex := 25, attributes := #[] }, { accessFlags := 25, nameIndex := 143, descriptorIndex := 25, attributes := #[] }, { accessFlags := 25, nameIndex := 53, descriptorIndex := 25, attributes := #[] }, { accessFlags := 25, nameIndex := 24, descriptorIndex := 25, attributes := #[] }, { accessFlags := 25, nameIndex := 162, descriptorIndex := 25, attributes := #[] }, { accessFlags := 25, nameIndex := 187, descriptorIndex := 25, attributes := #[] }, { accessFlags := 26, nameIndex := 48, descriptorIndex := 25, attributes := #[] }, { accessFlags := 25, nameIndex := 277, descriptorIndex := 25, attributes := #[] }, { accessFlags := 25, nameIndex := 280, descriptorIndex := 25, attributes := #[] }, { accessFlags := 25, nameIndex := 282, descriptorIndex := 25, attributes := #[] }, { accessFlags := 25, nameIndex := 284, descriptorIndex := 25, attributes := #[] }, { accessFlags := 25, nameIndex := 286, descriptorIndex := 25, attributes := #[] }, { accessFlags := 25, nameIndex := 288, descriptorIndex := 25, attributes := #[] }, { accessFlags := 25, nameIndex := 290, descriptorIndex := 25, attributes := #[] }, { accessFlags := 25, nameIndex := 292, descriptorIndex := 25, attributes := #[] }, { accessFlags := 26, nameIndex := 108, descriptorIndex := 109, attributes := #[] }, { accessFlags := 25, nameIndex := 294, descriptorIndex := 25, attributes := #[] }])
  fields := #[{ name := "U", type := (.object "jdk/internal/misc/Unsafe"), accessFlags := 24, slot := 0, constantValue := 0 }, { name := "BIG_ENDIAN", type := .boolean, accessFlags := 26, slot := 1, constantValue := 0 }, { name := "LOG2_ARRAY_BOOLEAN_INDEX_SCALE", type := .int, accessFlags := 25, slot := 2, constantValue := 0 }, { name := "LOG2_ARRAY_BYTE_INDEX_SCALE", type := .int, accessFlags := 25, slot := 3, constantValue := 0 }, { name := "LOG2_ARRAY_CHAR_INDEX_SCALE", type := .int, accessFlags := 25, slot := 4, constantValue := 0 }, { name := "LOG2_ARRAY_SHORT_INDEX_SCALE", type := .int, accessFlags := 25, slot := 5, constantValue := 0 }, { name := "LOG2_ARRAY_INT_INDEX_SCALE", type := .int, accessFlags := 25, slot := 6, constantValue := 0 }, { name := "LOG2_ARRAY_LONG_INDEX_SCALE", type := .int, accessFlags := 25, slot := 7, constantValue := 0 }, { name := "LOG2_ARRAY_FLOAT_INDEX_SCALE", type := .int, accessFlags := 25, slot := 8, constantValue := 0 }, { name := "LOG2_ARRAY_DOUBLE_INDEX_SCALE", type := .int, accessFlags := 25, slot := 9, constantValue := 0 }, { name := "LOG2_BYTE_BIT_SIZE", type := .int, accessFlags := 26, slot := 10, constantValue := 0 }, { name := "T_BOOLEAN", type := .int, accessFlags := 25, slot := 11, constantValue := 0 }, { name := "T_CHAR", type := .int, accessFlags := 25, slot := 12, constantValue := 0 }, { name := "T_FLOAT", type := .int, accessFlags := 25, slot := 13, constantValue := 0 }, { name := "T_DOUBLE", type := .int, accessFlags := 25, slot := 14, constantValue := 0 }, { name := "T_BYTE", type := .int, accessFlags := 25, slot := 15, constantValue := 0 }, { name := "T_SHORT", type := .int, accessFlags := 25, slot := 16, constantValue := 0 }, { name := "T_INT", type := .int, accessFlags := 25, slot := 17, constantValue := 0 }, { name := "T_LONG", type := .int, accessFlags := 25, slot := 18, constantValue := 0 }, { name := "JLA", type := (.object "jdk/internal/access/JavaLangAccess"), accessFlags := 26, slot := 19, constantValue := 0 }, { name := "SOFT_MAX_ARRAY_LENGTH", type := .int, accessFlags := 25, slot := 20, constantValue := 0 }]
  methods := #[k14m0]
  instanceTypes := #[]
  staticTypes := #[(.object "jdk/internal/misc/Unsafe"), .boolean, .int, .int, .int, .int, .int, .int, .int, .int, .int, .int, .int, .int, .int, .int, .int, .int, .int, (.object "jdk/internal/access/JavaLangAccess"), .int]
  resolved := Array.replicate 378 none
  statics := none }

/-- the primitive byte -/
def k15 : Class := { plain "byte" none with kind := .primitive 'B', accessFlags := 0x411 }
/-- [B -/
def k16 : Class := { plain "[B" (some 0) with kind := .array 15 .byte, interfaces := #[12, 2], accessFlags := 1041 }

/-- the primitive char -/
def k17 : Class := { plain "char" none with kind := .primitive 'C', accessFlags := 0x411 }
/-- [C -/
def k18 : Class := { plain "[C" (some 0) with kind := .array 17 .char, interfaces := #[12, 2], accessFlags := 1041 }

/-- the primitive int -/
def k19 : Class := { plain "int" none with kind := .primitive 'I', accessFlags := 0x411 }
/-- [I -/
def k20 : Class := { plain "[I" (some 0) with kind := .array 19 .int, interfaces := #[12, 2], accessFlags := 1041 }

/-- [Lcom/example/iskati/iskati/entity/EntityField; -/
def k21 : Class := { plain "[Lcom/example/iskati/iskati/entity/EntityField;" (some 0) with kind := .array 11 (.object "com/example/iskati/iskati/entity/EntityField"), interfaces := #[12, 2], accessFlags := 1041 }

def heap : Heap := #[{ cls := 7, slots := #[.long 0, .int 1, .null, .int 0, .null, .int 0, .int 0], vm := .statics 7 },
  { cls := 11, slots := #[.ref 12, .ref 13, .ref 14, .ref 15, .ref 3], vm := .statics 11 },
  { cls := 13, slots := #[.null, .null, .null], vm := .statics 13 },
  { cls := 21, slots := #[.ref 12, .ref 13, .ref 14, .ref 15], vm := .none },
  { cls := 16, slots := #[.int 110, .int 97, .int 109, .int 101, .int 115], vm := .none },
  { cls := 16, slots := #[.int 97, .int 116, .int 116, .int 114, .int 105, .int 98, .int 117, .int 116, .int 101, .int 115], vm := .none },
  { cls := 16, slots := #[.int 116, .int 121, .int 112, .int 101, .int 115], vm := .none },
  { cls := 16, slots := #[.int 108, .int 105, .int 110, .int 107, .int 115], vm := .none },
  { cls := 7, slots := #[.ref 4, .int 0, .int 0, .int 0], vm := .none },
  { cls := 7, slots := #[.ref 5, .int 0, .int 0, .int 0], vm := .none },
  { cls := 7, slots := #[.ref 6, .int 0, .int 0, .int 0], vm := .none },
  { cls := 7, slots := #[.ref 7, .int 0, .int 0, .int 0], vm := .none },
  { cls := 11, slots := #[.null, .int 0, .int 0, .ref 8], vm := .none },
  { cls := 11, slots := #[.null, .int 1, .int 0, .ref 9], vm := .none },
  { cls := 11, slots := #[.null, .int 2, .int 0, .ref 10], vm := .none },
  { cls := 11, slots := #[.null, .int 3, .int 0, .ref 11], vm := .none }]
def classes : Array Class := #[k0, k1, k2, k3, k4, k5, k6, k7, k8, k9, k10, k11, k12, k13, k14, k15, k16, k17, k18, k19, k20, k21]
def interned : List (Array UInt16 × Addr) := []
def slotsUsed : Nat := 76
def theMethod : MethodId := ⟨1, 1⟩
def args0 : Array Value := #[.int 5, .int 3, .int 65, .int 66]
def aboutOver (below : List Frame) : State where
  vm := { classes := classes, interned := interned.toArray }
  heap := heap
  slotsUsed := slotsUsed
  threads := #[{ frames := .invoking theMethod args0 :: below }]
def below0 : List Frame := [.native { method := ⟨0, 0⟩, args := #[] }]
def about1 : State := aboutOver below0
def p0 : Program := .bare "" "" ""
def e0 : Env := launch0.env 0 0 0
theorem w_frames : about1.frames = Frame.invoking theMethod args0 :: below0 := rfl
set_option maxRecDepth 65536 in
theorem w_args : argsFit about1.vm theMethod args0 = true := by decide +kernel
set_option maxRecDepth 65536 in
theorem w_heap : heapFits about1 = true := by decide +kernel
set_option maxRecDepth 65536 in
theorem w_runnable : about1.curStatus? = some .runnable := by decide +kernel
set_option maxRecDepth 65536 in
theorem w_alone : about1.alone = true := by decide +kernel
set_option maxRecDepth 65536 in
theorem w_named : about1.methodNamed? x = some theMethod := by decide +kernel
set_option maxRecDepth 65536 in
theorem w_hears : about1.hears theMethod below0 = true := by decide +kernel
set_option maxRecDepth 65536 in
theorem w_ripe : about1.ripe theMethod args0 below0 = true := by decide +kernel
theorem w_running : about1.status = .running := rfl
set_option maxRecDepth 65536 in
theorem w_room : about1.hasRoom e0.platform room_1 = true :=
  launch0.hasRoom_least _ room_1 (by decide +kernel) (by decide +kernel) (by decide +kernel) (by decide +kernel) (by decide +kernel) (by decide +kernel)
theorem allAtoms_all (ts : List Jvm.Cond) (a : Array Jvm.Value) (st : Jvm.State) : (allAtoms ts).before a st = ts.all (fun c => c.before a st) := by
  induction ts with
  | nil => rfl
  | cons c t ih =>
    show (Jvm.Cond.and c (allAtoms t)).before a st = _
    rw [Jvm.Cond.before_and, ih, List.all_cons]
def words1 : List Jvm.Cond := Jvm.Cond.code x code maxLocals ret :: tables_1
/-- a 'code' word, met by the world's own term for the bytes: nothing is compared byte by byte -/
theorem code_word {y : MethodName} {bytes : ByteArray} {mx : Nat} {rt : Option FieldType} {a : Array Value} {s : State} {m : MethodId} {meth : Method} {c : Code} (h1 : s.methodNamed? y = some m) (h2 : s.vm.method? m = some meth) (h3 : meth.code = some c) (h4 : c.code = bytes)
    (h5 : (c.maxLocals == mx && c.exceptionTable.isEmpty && decide (c.maxStack ≤ mostOperands) && decide (meth.sig.returnType = rt) && !meth.locks && decide (parseMethodDescriptor y.desc = some meth.sig)) = true) : (Jvm.Cond.code y bytes mx rt).before a s = true := by
  simp only [Bool.and_eq_true, beq_iff_eq, Bool.not_eq_true', decide_eq_true_eq] at h5
  obtain ⟨⟨⟨⟨⟨g1, g2⟩, g3⟩, g4⟩, g5⟩, g6⟩ := h5
  simp [Cond.before, Cond.holds, Cond.value, h1, h2, h3, h4, g1, g2, g3, g4, g5, g6]
def isCode : Jvm.Cond → Bool
  | .code _ _ _ _ => true
  | _ => false
theorem all_split {L : List Jvm.Cond} {P : Jvm.Cond → Bool} (h1 : L.all (fun c => isCode c || P c) = true) (h2 : ∀ c ∈ L.filter isCode, P c = true) : L.all P = true := by
  refine List.all_eq_true.mpr fun c hc => ?_
  have h := List.all_eq_true.mp h1 c hc
  rcases Bool.eq_false_or_eq_true (isCode c) with hi | hi
  · exact h2 c (List.mem_filter.mpr ⟨hc, hi⟩)
  · simpa [hi] using h
set_option maxRecDepth 65536 in
theorem w_c0 : (Jvm.Cond.code x code maxLocals ret).before args0 about1 = true := code_word (m := ⟨1, 1⟩) (meth := k1m1) (c := k1c1) (by decide +kernel) rfl rfl rfl (by decide +kernel)
set_option maxRecDepth 65536 in
theorem w_c1 : (Jvm.Cond.code ({ cls := "com/example/iskati/iskati/entity/EntityFieldNamedPinLaw", name := "baseOf", desc := "(I)[C" } : Jvm.MethodName) method_4_code (1 : Nat) (Option.some (Jvm.ClassFile.FieldType.array Jvm.ClassFile.FieldType.char))).before args0 about1 = true := code_word (m := ⟨1, 3⟩) (meth := k1m3) (c := k1c3) (by decide +kernel) rfl rfl rfl (by decide +kernel)
set_option maxRecDepth 65536 in
theorem w_c2 : (Jvm.Cond.code ({ cls := "java/lang/String", name := "<init>", desc := "([C)V" } : Jvm.MethodName) jdk_42_method_3_code (2 : Nat) (Option.none : Option Jvm.ClassFile.FieldType)).before args0 about1 = true := code_word (m := ⟨7, 1⟩) (meth := k7m1) (c := k7c1) (by decide +kernel) rfl rfl rfl (by decide +kernel)
set_option maxRecDepth 65536 in
theorem w_c3 : (Jvm.Cond.code ({ cls := "java/lang/String", name := "<init>", desc := "([CIILjava/lang/Void;)V" } : Jvm.MethodName) jdk_42_method_149_code (6 : Nat) (Option.none : Option Jvm.ClassFile.FieldType)).before args0 about1 = true := code_word (m := ⟨7, 4⟩) (meth := k7m4) (c := k7c4) (by decide +kernel) rfl rfl rfl (by decide +kernel)
set_option maxRecDepth 65536 in
theorem w_c4 : (Jvm.Cond.code ({ cls := "java/lang/Object", name := "<init>", desc := "()V" } : Jvm.MethodName) object_method_1_code (1 : Nat) (Option.none : Option Jvm.ClassFile.FieldType)).before args0 about1 = true := code_word (m := ⟨0, 0⟩) (meth := k0m0) (c := k0c0) (by decide +kernel) rfl rfl rfl (by decide +kernel)
set_option maxRecDepth 65536 in
theorem w_c5 : (Jvm.Cond.code ({ cls := "java/lang/StringUTF16", name := "compress", desc := "([CII)[B" } : Jvm.MethodName) jdk_52_method_16_code (6 : Nat) (Option.some (Jvm.ClassFile.FieldType.array Jvm.ClassFile.FieldType.byte))).before args0 about1 = true := code_word (m := ⟨8, 2⟩) (meth := k8m2) (c := k8c2) (by decide +kernel) rfl rfl rfl (by decide +kernel)
set_option maxRecDepth 65536 in
theorem w_c6 : (Jvm.Cond.code ({ cls := "java/lang/StringUTF16", name := "compress", desc := "([CI[BII)I" } : Jvm.MethodName) jdk_52_method_21_code (7 : Nat) (Option.some Jvm.ClassFile.FieldType.int)).before args0 about1 = true := code_word (m := ⟨8, 3⟩) (meth := k8m3) (c := k8c3) (by decide +kernel) rfl rfl rfl (by decide +kernel)
set_option maxRecDepth 65536 in
theorem w_c7 : (Jvm.Cond.code ({ cls := "java/lang/StringUTF16", name := "coderFromArrayLen", desc := "([BI)B" } : Jvm.MethodName) jdk_52_method_15_code (2 : Nat) (Option.some Jvm.ClassFile.FieldType.byte)).before args0 about1 = true := code_word (m := ⟨8, 1⟩) (meth := k8m1) (c := k8c1) (by decide +kernel) rfl rfl rfl (by decide +kernel)
set_option maxRecDepth 65536 in
theorem w_c8 : (Jvm.Cond.code ({ cls := "com/example/iskati/iskati/entity/EntityFieldNamedPinLaw", name := "expected", desc := "(Ljava/lang/String;)Lcom/example/iskati/iskati/entity/EntityField;" } : Jvm.MethodName) method_3_code (1 : Nat) (Option.some (Jvm.ClassFile.FieldType.object "com/example/iskati/iskati/entity/EntityField"))).before args0 about1 = true := code_word (m := ⟨1, 2⟩) (meth := k1m2) (c := k1c2) (by decide +kernel) rfl rfl rfl (by decide +kernel)
set_option maxRecDepth 65536 in
theorem w_c9 : (Jvm.Cond.code ({ cls := "java/lang/String", name := "equals", desc := "(Ljava/lang/Object;)Z" } : Jvm.MethodName) jdk_42_method_66_code (3 : Nat) (Option.some Jvm.ClassFile.FieldType.boolean)).before args0 about1 = true := code_word (m := ⟨7, 2⟩) (meth := k7m2) (c := k7c2) (by decide +kernel) rfl rfl rfl (by decide +kernel)
set_option maxRecDepth 65536 in
theorem w_c10 : (Jvm.Cond.code ({ cls := "java/lang/StringLatin1", name := "equals", desc := "([B[B)Z" } : Jvm.MethodName) jdk_43_method_13_code (3 : Nat) (Option.some Jvm.ClassFile.FieldType.boolean)).before args0 about1 = true := code_word (m := ⟨9, 2⟩) (meth := k9m2) (c := k9c2) (by decide +kernel) rfl rfl rfl (by decide +kernel)
set_option maxRecDepth 65536 in
theorem w_c11 : (Jvm.Cond.code ({ cls := "com/example/iskati/iskati/entity/EntityField", name := "named", desc := "(Ljava/lang/String;)Lcom/example/iskati/iskati/entity/EntityField;" } : Jvm.MethodName) prog_4_method_5_code (5 : Nat) (Option.some (Jvm.ClassFile.FieldType.object "com/example/iskati/iskati/entity/EntityField"))).before args0 about1 = true := code_word (m := ⟨11, 1⟩) (meth := k11m1) (c := k11c1) (by decide +kernel) rfl rfl rfl (by decide +kernel)
set_option maxRecDepth 65536 in
theorem w_c12 : (Jvm.Cond.code ({ cls := "com/example/iskati/iskati/entity/EntityField", name := "values", desc := "()[Lcom/example/iskati/iskati/entity/EntityField;" } : Jvm.MethodName) prog_4_method_1_code (0 : Nat) (Option.some (Jvm.ClassFile.FieldType.array (Jvm.ClassFile.FieldType.object "com/example/iskati/iskati/entity/EntityField")))).before args0 about1 = true := code_word (m := ⟨11, 0⟩) (meth := k11m0) (c := k11c0) (by decide +kernel) rfl rfl rfl (by decide +kernel)
set_option maxRecDepth 65536 in
theorem w_c13 : (Jvm.Cond.code ({ cls := "com/example/iskati/iskati/entity/EntityFieldNamedPinLaw", name := "longOf", desc := "(IC)[C" } : Jvm.MethodName) method_6_code (2 : Nat) (Option.some (Jvm.ClassFile.FieldType.array Jvm.ClassFile.FieldType.char))).before args0 about1 = true := code_word (m := ⟨1, 5⟩) (meth := k1m5) (c := k1c5) (by decide +kernel) rfl rfl rfl (by decide +kernel)
set_option maxRecDepth 65536 in
theorem w_c14 : (Jvm.Cond.code ({ cls := "java/lang/String", name := "valueOf", desc := "(C)Ljava/lang/String;" } : Jvm.MethodName) jdk_42_method_139_code (1 : Nat) (Option.some (Jvm.ClassFile.FieldType.object "java/lang/String"))).before args0 about1 = true := code_word (m := ⟨7, 3⟩) (meth := k7m3) (c := k7c3) (by decide +kernel) rfl rfl rfl (by decide +kernel)
set_option maxRecDepth 65536 in
theorem w_c15 : (Jvm.Cond.code ({ cls := "java/lang/StringLatin1", name := "canEncode", desc := "(C)Z" } : Jvm.MethodName) jdk_43_method_3_code (1 : Nat) (Option.some Jvm.ClassFile.FieldType.boolean)).before args0 about1 = true := code_word (m := ⟨9, 1⟩) (meth := k9m1) (c := k9c1) (by decide +kernel) rfl rfl rfl (by decide +kernel)
set_option maxRecDepth 65536 in
theorem w_c16 : (Jvm.Cond.code ({ cls := "java/lang/StringLatin1", name := "toBytes", desc := "(C)[B" } : Jvm.MethodName) jdk_43_method_46_code (1 : Nat) (Option.some (Jvm.ClassFile.FieldType.array Jvm.ClassFile.FieldType.byte))).before args0 about1 = true := code_word (m := ⟨9, 3⟩) (meth := k9m3) (c := k9c3) (by decide +kernel) rfl rfl rfl (by decide +kernel)
set_option maxRecDepth 65536 in
theorem w_c17 : (Jvm.Cond.code ({ cls := "java/lang/String", name := "<init>", desc := "([BB)V" } : Jvm.MethodName) jdk_42_method_151_code (3 : Nat) (Option.none : Option Jvm.ClassFile.FieldType)).before args0 about1 = true := code_word (m := ⟨7, 5⟩) (meth := k7m5) (c := k7c5) (by decide +kernel) rfl rfl rfl (by decide +kernel)
set_option maxRecDepth 65536 in
theorem w_c18 : (Jvm.Cond.code ({ cls := "com/example/iskati/iskati/entity/EntityFieldNamedPinLaw", name := "shortOf", desc := "(I)[C" } : Jvm.MethodName) method_5_code (1 : Nat) (Option.some (Jvm.ClassFile.FieldType.array Jvm.ClassFile.FieldType.char))).before args0 about1 = true := code_word (m := ⟨1, 4⟩) (meth := k1m4) (c := k1c4) (by decide +kernel) rfl rfl rfl (by decide +kernel)
def codes1 : List Jvm.Cond := [Jvm.Cond.code x code maxLocals ret, Jvm.Cond.code ({ cls := "com/example/iskati/iskati/entity/EntityFieldNamedPinLaw", name := "baseOf", desc := "(I)[C" } : Jvm.MethodName) method_4_code (1 : Nat) (Option.some (Jvm.ClassFile.FieldType.array Jvm.ClassFile.FieldType.char)), Jvm.Cond.code ({ cls := "java/lang/String", name := "<init>", desc := "([C)V" } : Jvm.MethodName) jdk_42_method_3_code (2 : Nat) (Option.none : Option Jvm.ClassFile.FieldType), Jvm.Cond.code ({ cls := "java/lang/String", name := "<init>", desc := "([CIILjava/lang/Void;)V" } : Jvm.MethodName) jdk_42_method_149_code (6 : Nat) (Option.none : Option Jvm.ClassFile.FieldType), Jvm.Cond.code ({ cls := "java/lang/Object", name := "<init>", desc := "()V" } : Jvm.MethodName) object_method_1_code (1 : Nat) (Option.none : Option Jvm.ClassFile.FieldType), Jvm.Cond.code ({ cls := "java/lang/StringUTF16", name := "compress", desc := "([CII)[B" } : Jvm.MethodName) jdk_52_method_16_code (6 : Nat) (Option.some (Jvm.ClassFile.FieldType.array Jvm.ClassFile.FieldType.byte)), Jvm.Cond.code ({ cls := "java/lang/StringUTF16", name := "compress", desc := "([CI[BII)I" } : Jvm.MethodName) jdk_52_method_21_code (7 : Nat) (Option.some Jvm.ClassFile.FieldType.int), Jvm.Cond.code ({ cls := "java/lang/StringUTF16", name := "coderFromArrayLen", desc := "([BI)B" } : Jvm.MethodName) jdk_52_method_15_code (2 : Nat) (Option.some Jvm.ClassFile.FieldType.byte), Jvm.Cond.code ({ cls := "com/example/iskati/iskati/entity/EntityFieldNamedPinLaw", name := "expected", desc := "(Ljava/lang/String;)Lcom/example/iskati/iskati/entity/EntityField;" } : Jvm.MethodName) method_3_code (1 : Nat) (Option.some (Jvm.ClassFile.FieldType.object "com/example/iskati/iskati/entity/EntityField")), Jvm.Cond.code ({ cls := "java/lang/String", name := "equals", desc := "(Ljava/lang/Object;)Z" } : Jvm.MethodName) jdk_42_method_66_code (3 : Nat) (Option.some Jvm.ClassFile.FieldType.boolean), Jvm.Cond.code ({ cls := "java/lang/StringLatin1", name := "equals", desc := "([B[B)Z" } : Jvm.MethodName) jdk_43_method_13_code (3 : Nat) (Option.some Jvm.ClassFile.FieldType.boolean), Jvm.Cond.code ({ cls := "com/example/iskati/iskati/entity/EntityField", name := "named", desc := "(Ljava/lang/String;)Lcom/example/iskati/iskati/entity/EntityField;" } : Jvm.MethodName) prog_4_method_5_code (5 : Nat) (Option.some (Jvm.ClassFile.FieldType.object "com/example/iskati/iskati/entity/EntityField")), Jvm.Cond.code ({ cls := "com/example/iskati/iskati/entity/EntityField", name := "values", desc := "()[Lcom/example/iskati/iskati/entity/EntityField;" } : Jvm.MethodName) prog_4_method_1_code (0 : Nat) (Option.some (Jvm.ClassFile.FieldType.array (Jvm.ClassFile.FieldType.object "com/example/iskati/iskati/entity/EntityField"))), Jvm.Cond.code ({ cls := "com/example/iskati/iskati/entity/EntityFieldNamedPinLaw", name := "longOf", desc := "(IC)[C" } : Jvm.MethodName) method_6_code (2 : Nat) (Option.some (Jvm.ClassFile.FieldType.array Jvm.ClassFile.FieldType.char)), Jvm.Cond.code ({ cls := "java/lang/String", name := "valueOf", desc := "(C)Ljava/lang/String;" } : Jvm.MethodName) jdk_42_method_139_code (1 : Nat) (Option.some (Jvm.ClassFile.FieldType.object "java/lang/String")), Jvm.Cond.code ({ cls := "java/lang/StringLatin1", name := "canEncode", desc := "(C)Z" } : Jvm.MethodName) jdk_43_method_3_code (1 : Nat) (Option.some Jvm.ClassFile.FieldType.boolean), Jvm.Cond.code ({ cls := "java/lang/StringLatin1", name := "toBytes", desc := "(C)[B" } : Jvm.MethodName) jdk_43_method_46_code (1 : Nat) (Option.some (Jvm.ClassFile.FieldType.array Jvm.ClassFile.FieldType.byte)), Jvm.Cond.code ({ cls := "java/lang/String", name := "<init>", desc := "([BB)V" } : Jvm.MethodName) jdk_42_method_151_code (3 : Nat) (Option.none : Option Jvm.ClassFile.FieldType), Jvm.Cond.code ({ cls := "com/example/iskati/iskati/entity/EntityFieldNamedPinLaw", name := "shortOf", desc := "(I)[C" } : Jvm.MethodName) method_5_code (1 : Nat) (Option.some (Jvm.ClassFile.FieldType.array Jvm.ClassFile.FieldType.char))]
set_option maxRecDepth 65536 in
theorem codes_eq : words1.filter isCode = codes1 := rfl
theorem w_codes : ∀ c ∈ words1.filter isCode, c.before args0 about1 = true := by
  rw [codes_eq]
  intro c hc
  simp only [codes1, List.mem_cons, List.not_mem_nil, or_false] at hc
  rcases hc with rfl | rfl | rfl | rfl | rfl | rfl | rfl | rfl | rfl | rfl | rfl | rfl | rfl | rfl | rfl | rfl | rfl | rfl | rfl
  · exact w_c0
  · exact w_c1
  · exact w_c2
  · exact w_c3
  · exact w_c4
  · exact w_c5
  · exact w_c6
  · exact w_c7
  · exact w_c8
  · exact w_c9
  · exact w_c10
  · exact w_c11
  · exact w_c12
  · exact w_c13
  · exact w_c14
  · exact w_c15
  · exact w_c16
  · exact w_c17
  · exact w_c18
set_option maxRecDepth 65536 in
theorem w_t1 : (words1.take 24).all (fun c => isCode c || c.before args0 about1) = true := by decide +kernel
set_option maxRecDepth 65536 in
theorem w_t2 : ((words1.drop 24).take 24).all (fun c => isCode c || c.before args0 about1) = true := by decide +kernel
set_option maxRecDepth 65536 in
theorem w_t3 : (((words1.drop 24).drop 24).take 24).all (fun c => isCode c || c.before args0 about1) = true := by decide +kernel
set_option maxRecDepth 65536 in
theorem w_t4 : ((((words1.drop 24).drop 24).drop 24).take 24).all (fun c => isCode c || c.before args0 about1) = true := by decide +kernel
set_option maxRecDepth 65536 in
theorem w_t5 : ((((words1.drop 24).drop 24).drop 24).drop 24).all (fun c => isCode c || c.before args0 about1) = true := by decide +kernel
theorem w_tables : (allAtoms (Jvm.Cond.code x code maxLocals ret :: tables_1)).before args0 about1 = true := by
  rw [allAtoms_all]
  show words1.all (fun c => c.before args0 about1) = true
  refine all_split ?_ w_codes
  rw [← List.take_append_drop 24 words1, List.all_append, w_t1, ← List.take_append_drop 24 (words1.drop 24), List.all_append, w_t2, ← List.take_append_drop 24 ((words1.drop 24).drop 24), List.all_append, w_t3, ← List.take_append_drop 24 (((words1.drop 24).drop 24).drop 24), List.all_append, w_t4, w_t5]
  rfl
set_option maxRecDepth 65536 in
theorem w_rest : rest_1_c.before args0 about1 = true := by decide +kernel
set_option maxRecDepth 65536 in
theorem w_case : (Jvm.Cond.and given_1 narrow_1).before args0 about1 = true := by decide +kernel
set_option maxRecDepth 65536 in
theorem w_consts : constsHeld consts_1 about1 := Jvm.Lit.constsHeldB_iff.mp (by decide +kernel)
theorem w_applies : (headSpec (Jvm.Cond.code x code maxLocals ret :: tables_1) room_1).applies x e0.platform about1 = true :=
  (Spec.applies_iff w_frames).mpr ⟨w_running, w_runnable, w_alone, w_named, w_hears, w_ripe, w_room, w_tables⟩
theorem atStart : AtStart classFile x code maxLocals ret World_1 tables_1 room_1 Calls_1 rest_1 Pre_1 launch0 p0 e0 about1 theMethod args0 below0 :=
  ⟨lists_1, trivial, launch0.admits_env _ _ _, launch0.least_env, fairChoices_fair.cas, fairChoices_fair.clock, w_frames, w_args, w_heap, w_applies, ⟨w_consts, trivial⟩, w_rest, w_case⟩
end start1
theorem witness_1 : WitnessClaimed_1 := ⟨start1.p0, start1.e0, start1.about1, start1.theMethod, start1.args0, start1.below0, start1.atStart⟩
end Jvm.Pilot.@@N@@
