import JvmDerived
import JvmDerived.Pilot.@@N@@Statement
import JvmDerived.Pilot.@@N@@Code
set_option linter.unusedVariables false
set_option linter.unusedSimpArgs false
namespace Jvm.RoadKit
open Sem ClassFile Op Lib Jvm.Stand Jvm.Free Jvm.LawKit
section New
variable {p : Program} {l : Launch} {e : Env} {R : Room} {s : State} {m : MethodId} {args : Array Value} {below : List Frame} {meth : Method} {c : Code} {T : State} {locs : List Loc} {cells slots : Nat}
theorem retI (X : Stand p l e R s m args below meth c T locs cells slots) (hx : p.tables.exec = Jvm.exec) {pc : Nat} {Ls : Array Slot} {z : Int32} {rest : List Value} (hret : meth.sig.returnType = some .int) (hd : decode c.code pc = .ok (.ireturn, 1)) {fs : List Frame}
    (hl : ∀ (f : JFrame) (acts : List Action), f.method = m → f.locked = none → f.entered = [] → (doReturn e (T.setTop f) acts (some (.int z))).1 = T.setFrames fs) : Steps p.tables e below (T.setTop (mkF m pc Ls (.int z :: rest))) (T.setFrames fs) := by
  have hm' : T.vm.method? m = some meth := X.method'
  have hn : narrow .int (.int z) = .int z := rfl
  show Steps p.tables e below (T.setTop { method := m, pc := pc, locals := Ls, stack := _ :: rest, locked := none }) _
  jvm_step X.here [X.here.top, hx, hd, hm', hret, hn]
  first | (intro acts; rw [hl _ acts rfl rfl rfl]) | rw [hl _ _ rfl rfl rfl]
  exact Steps.refl _
end New
end Jvm.RoadKit
/- laws to paste: Road.backV, Road.eqW (cut by pick.py; bodies as the Statement names them) -/
namespace Jvm.Pilot.@@N@@
namespace StrChars
open Jvm Sem ClassFile Op Lib Jvm.Stand Jvm.Free.XT Jvm.Free.ALB Jvm.Free.JM Jvm.Free
open Jvm.Lib.Cold (StaticIs)
/-- a char array whose places are chars -/
def Ch (a : Addr) (A : Cell) (U : State) : Prop := Arr .char a A U ∧ Typed .char A
theorem Ch.mv {a : Addr} {A : Cell} {U U' : State} (h : Ch a A U) (hal : U.vm.Alike U'.vm) (hh : U'.heap = U.heap) : Ch a A U' := ⟨h.1.mv hal hh, h.2⟩
theorem Ch.keep {a : Addr} {A : Cell} {U U' : State} (h : Ch a A U) (hal : U.vm.Alike U'.vm) (hk : U'.heap[a]? = some A) : Ch a A U' := ⟨h.1.keep hal hk, h.2⟩
/-- what place i of a char[]'s cell holds -/
def cv (A : Cell) (i : Nat) : Int32 := match A.slots[i]? with | some (.int x) => x | _ => 0
theorem Ch.get {a : Addr} {A : Cell} {U : State} (h : Ch a A U) {i : Nat} (hi : i < A.slots.size) : A.slots[i]? = some (.int (cv A i)) := by
  have e := Array.getElem?_eq_getElem hi
  have f := h.2 i _ e
  unfold cv; rw [e]
  generalize A.slots[i] = v at f
  cases v <;> simp [fits] at f ⊢
/-- the byte that i2b leaves of a char -/
def lo8 (x : Int32) : Int32 := x.toInt8.toInt32
theorem fits_lo8 (y : Int32) : fits .byte (.int (lo8 y)) = true := by
  have h1 := y.toInt8.le_toInt
  have h2 := y.toInt8.toInt_lt
  simp only [lo8, fits, Bool.and_eq_true, decide_eq_true_eq, Int32.le_iff_toInt_le, Int8.toInt_toInt32, show (-128 : Int32).toInt = -128 from by decide, show (127 : Int32).toInt = 127 from by decide]
  omega
/-- A' is A but that each place j of lo .. hi - 1 holds f j -/
def Laid (A A' : Cell) (lo hi : Nat) (f : Nat → Value) : Prop := A'.cls = A.cls ∧ A'.vm = A.vm ∧ A'.slots.size = A.slots.size ∧ ∀ i, A'.slots[i]? = if lo ≤ i ∧ i < hi then some (f i) else A.slots[i]?
theorem Laid.zero (A : Cell) (lo : Nat) (f : Nat → Value) : Laid A A lo (lo + 0) f := ⟨rfl, rfl, rfl, fun i => by rw [if_neg (by omega)]⟩
theorem Laid.step {A Ak : Cell} {lo k : Nat} {f : Nat → Value} {v : Value} (h : Laid A Ak lo k f) (hlo : lo ≤ k) (hk : k < Ak.slots.size) (hv : v = f k) : Laid A (Ak.setSlot k v) lo (k + 1) f := by
  refine ⟨h.1, h.2.1, by simpa [Cell.setSlot] using h.2.2.1, fun i => ?_⟩
  by_cases e : k = i
  · subst e; rw [Cell.slots_setSlot_self v hk, if_pos (by omega), hv]
  · rw [Cell.slots_setSlot_ne v e, h.2.2.2 i]
    by_cases q : lo ≤ i ∧ i < k
    · rw [if_pos q, if_pos (by omega)]
    · rw [if_neg q, if_neg (by omega)]
def U16 : String := "java/lang/StringUTF16"
namespace Cmp5
def yN : MethodName := ⟨"java/lang/StringUTF16", "compress", "([CI[BII)I"⟩
abbrev yB : ByteArray := jdk_52_method_21_code
theorem d0 : decode yB 0 = .ok (.iconst 0, 1) := by decide +kernel
theorem d1 : decode yB 1 = .ok (.istore 5, 2) := by decide +kernel
theorem d3 : decode yB 3 = .ok (.iload 5, 2) := by decide +kernel
theorem d5 : decode yB 5 = .ok (.iload 4, 2) := by decide +kernel
theorem d7 : decode yB 7 = .ok (.if_icmp (.ge) 37, 3) := by decide +kernel
theorem d10 : decode yB 10 = .ok (.aload_n 0, 1) := by decide +kernel
theorem d11 : decode yB 11 = .ok (.iload_n 1, 1) := by decide +kernel
theorem d12 : decode yB 12 = .ok (.caload, 1) := by decide +kernel
theorem d13 : decode yB 13 = .ok (.istore 6, 2) := by decide +kernel
theorem d15 : decode yB 15 = .ok (.iload 6, 2) := by decide +kernel
theorem d17 : decode yB 17 = .ok (.sipush 255, 3) := by decide +kernel
theorem d20 : decode yB 20 = .ok (.if_icmp (.le) 6, 3) := by decide +kernel
theorem d26 : decode yB 26 = .ok (.aload_n 2, 1) := by decide +kernel
theorem d27 : decode yB 27 = .ok (.iload_n 3, 1) := by decide +kernel
theorem d28 : decode yB 28 = .ok (.iload 6, 2) := by decide +kernel
theorem d30 : decode yB 30 = .ok (.i2b, 1) := by decide +kernel
theorem d31 : decode yB 31 = .ok (.bastore, 1) := by decide +kernel
theorem d32 : decode yB 32 = .ok (.iinc 1 1, 3) := by decide +kernel
theorem d35 : decode yB 35 = .ok (.iinc 3 1, 3) := by decide +kernel
theorem d38 : decode yB 38 = .ok (.iinc 5 1, 3) := by decide +kernel
theorem d41 : decode yB 41 = .ok (.goto (-38), 3) := by decide +kernel
theorem d44 : decode yB 44 = .ok (.iload 4, 2) := by decide +kernel
theorem d46 : decode yB 46 = .ok (.ireturn, 1) := by decide +kernel
def site : List Cond := []
def tab : Cond := tabOf yN yB 7 (some .int) site
def P (b : Addr) (A : Cell) (d : Addr) (B : Cell) (o q len : Nat) (args : Array Value) (s : State) : Prop := args = #[.ref b, .int (Int32.ofNat o), .ref d, .int (Int32.ofNat q), .int (Int32.ofNat len)] ∧ Ch b A s ∧ Arr .byte d B s ∧ b ≠ d ∧ o + len ≤ A.slots.size ∧ q + len ≤ B.slots.size ∧ ∀ i, i < len → ¬ 255 < cv A (o + i)
def E (b : Addr) (A : Cell) (d : Addr) (B : Cell) (o q len : Nat) (r : Option Value) (s u : State) : Prop := r = some (.int (Int32.ofNat len)) ∧ ∃ B', Put d B' s u ∧ Laid B B' q (q + len) (fun j => Value.int (lo8 (cv A (o + (j - q)))))
/-- no char of the range above 255: len; the places written hold each char's low byte -/
theorem law (l : Launch) (b : Addr) (A : Cell) (d : Addr) (B : Cell) (o q len : Nat) : Law l yN 5 5 0 0 yB 7 (some .int) site (P b A d B o q len) (E b A d B o q len) (copyLocs d q len) 0 0 := by
  refine Law.of_walk (plainFor_of_name (by decide +kernel)) (by decide +kernel) (by decide +kernel) (by decide) (fun _ _ h => by rw [h.1]; rfl) (fun _ U U' hal hh h => ⟨h.1, h.2.1.mv hal hh, h.2.2.1.mv hal hh, h.2.2.2⟩) (fun r U U' V V' h1 hal h2 h => ⟨h.1, h.2.elim fun B' q => ⟨B', q.1.mv h1 h2, q.2⟩⟩) ?_
  intro p e s m args below meth c s₁ X0 hexec hbytes hml hret hlk hnm hown hh0 W hP
  obtain ⟨rfl, hA, hB, hne, l1, l2, hp⟩ := hP
  have c1 : Steps p.tables e below (s₁.setTop (entryFrame m #[.ref b, .int (Int32.ofNat o), .ref d, .int (Int32.ofNat q), .int (Int32.ofNat len)] 7)) (s₁.setTop (mkF m 0 #[.val (.ref b), .val (.int (Int32.ofNat o)), .val (.ref d), .val (.int (Int32.ofNat q)), .val (.int (Int32.ofNat len)), .unset, .unset] [])) := entry rfl
  have hA0 := hA.1.mv X0.warmed.alike hh0
  have hB0 := hB.mv X0.warmed.alike hh0
  have a31 := hA.1.2.2.2
  have c2 : Steps p.tables e below (s₁.setTop (entryFrame m #[.ref b, .int (Int32.ofNat o), .ref d, .int (Int32.ofNat q), .int (Int32.ofNat len)] 7)) (s₁.setTop (mkF m 3 #[.val (.ref b), .val (.int (Int32.ofNat o)), .val (.ref d), .val (.int (Int32.ofNat q)), .val (.int (Int32.ofNat len)), .val (.int 0), .unset] [])) := c1.trans (by
    refine iconstV X0.here hexec rfl 0 (hb hbytes d0) (by decide) ?_
    refine XS.istore X0.here hexec rfl (hb hbytes d1) rfl rfl ?_
    exact Steps.refl _)
  have loop : ∀ (r i : Nat), i + r = len → ∀ (z : Slot), (z = .unset ∨ ∃ w, z = .val w ∧ w.category = 1) → ∀ (Tl : State) (Bk : Cell), Stand p l e { frames := 0, locals := 0, cells := 0, slots := 0 } s m #[.ref b, .int (Int32.ofNat o), .ref d, .int (Int32.ofNat q), .int (Int32.ofNat len)] below meth c Tl ([] ++ copyLocs d q i) 0 0 → Put d Bk s₁ Tl → Laid B Bk q (q + i) (fun j => Value.int (lo8 (cv A (o + (j - q))))) →
      Steps p.tables e below (s₁.setTop (entryFrame m #[.ref b, .int (Int32.ofNat o), .ref d, .int (Int32.ofNat q), .int (Int32.ofNat len)] 7)) (Tl.setTop (mkF m 3 #[.val (.ref b), .val (.int (Int32.ofNat (o + i))), .val (.ref d), .val (.int (Int32.ofNat (q + i))), .val (.int (Int32.ofNat len)), .val (.int (Int32.ofNat i)), z] [])) → ∃ (T' : State) (B' : Cell) (z' : Slot), Stand p l e { frames := 0, locals := 0, cells := 0, slots := 0 } s m #[.ref b, .int (Int32.ofNat o), .ref d, .int (Int32.ofNat q), .int (Int32.ofNat len)] below meth c T' ([] ++ copyLocs d q len) 0 0 ∧ Put d B' s₁ T' ∧ Laid B B' q (q + len) (fun j => Value.int (lo8 (cv A (o + (j - q))))) ∧
      Steps p.tables e below (s₁.setTop (entryFrame m #[.ref b, .int (Int32.ofNat o), .ref d, .int (Int32.ofNat q), .int (Int32.ofNat len)] 7)) (T'.setTop (mkF m 3 #[.val (.ref b), .val (.int (Int32.ofNat (o + len))), .val (.ref d), .val (.int (Int32.ofNat (q + len))), .val (.int (Int32.ofNat len)), .val (.int (Int32.ofNat len)), z'] [])) := by
    intro r
    induction r with
    | zero =>
      intro i hi z hz Tl Bk Xl pl fl cl
      have hil : i = len := by omega
      rw [hil] at Xl fl cl
      exact ⟨Tl, Bk, z, Xl, pl, fl, cl⟩
    | succ r ih =>
      intro i hi z hz Tl Bk Xl pl fl cl
      have all := X0.warmed.alike.symm.trans Xl.warmed.alike
      have hAl := hA0.keep all (pl.other hne hA0.1)
      have hBk := hB0.like all pl.1 fl.1 fl.2.1 fl.2.2.1
      have hlt : q + i < Bk.slots.size := by rw [fl.2.2.1]; omega
      have c3 : Steps p.tables e below (s₁.setTop (entryFrame m #[.ref b, .int (Int32.ofNat o), .ref d, .int (Int32.ofNat q), .int (Int32.ofNat len)] 7)) (Tl.setTop (mkF m 12 #[.val (.ref b), .val (.int (Int32.ofNat (o + i))), .val (.ref d), .val (.int (Int32.ofNat (q + i))), .val (.int (Int32.ofNat len)), .val (.int (Int32.ofNat i)), z] [.int (Int32.ofNat (o + i)), .ref b])) := cl.trans (by
        refine XS.iload Xl.here hexec rfl (hb hbytes d3) rfl ?_
        refine XS.iload Xl.here hexec rfl (hb hbytes d5) rfl ?_
        refine XS.icmpNo Xl.here hexec rfl (hb hbytes d7) rfl (ii_ge_f (lt32 (by omega) (by omega))) ?_
        refine XS.aloadN Xl.here hexec rfl (hb hbytes d10) rfl rfl ?_
        refine XS.iloadN Xl.here hexec rfl (hb hbytes d11) rfl ?_
        exact Steps.refl _)
      have c4 : Steps p.tables e below (s₁.setTop (entryFrame m #[.ref b, .int (Int32.ofNat o), .ref d, .int (Int32.ofNat q), .int (Int32.ofNat len)] 7)) (Tl.setTop (mkF m 13 #[.val (.ref b), .val (.int (Int32.ofNat (o + i))), .val (.ref d), .val (.int (Int32.ofNat (q + i))), .val (.int (Int32.ofNat len)), .val (.int (Int32.ofNat i)), z] [.int (cv A (o + i))])) := c3.trans (by
        refine Xl.aget hexec hAl rfl (hA.get (i := o + i) (by omega)) rfl rfl (hb hbytes d12) ?_
        exact Steps.refl _)
      have c5 : Steps p.tables e below (s₁.setTop (entryFrame m #[.ref b, .int (Int32.ofNat o), .ref d, .int (Int32.ofNat q), .int (Int32.ofNat len)] 7)) (Tl.setTop (mkF m 15 #[.val (.ref b), .val (.int (Int32.ofNat (o + i))), .val (.ref d), .val (.int (Int32.ofNat (q + i))), .val (.int (Int32.ofNat len)), .val (.int (Int32.ofNat i)), .val (.int (cv A (o + i)))] [])) := c4.trans (by
        refine XS.istoreS Xl.here hexec rfl (hb hbytes d13) rfl rfl hz ?_
        exact Steps.refl _)
      have c6 : Steps p.tables e below (s₁.setTop (entryFrame m #[.ref b, .int (Int32.ofNat o), .ref d, .int (Int32.ofNat q), .int (Int32.ofNat len)] 7)) (Tl.setTop (mkF m 31 #[.val (.ref b), .val (.int (Int32.ofNat (o + i))), .val (.ref d), .val (.int (Int32.ofNat (q + i))), .val (.int (Int32.ofNat len)), .val (.int (Int32.ofNat i)), .val (.int (cv A (o + i)))] [.int (lo8 (cv A (o + i))), .int (Int32.ofNat (q + i)), .ref d])) := c5.trans (by
        refine XS.iload Xl.here hexec rfl (hb hbytes d15) rfl ?_
        refine sipushV Xl.here hexec rfl 255 (hb hbytes d17) (by decide) ?_
        refine XS.icmpYes Xl.here hexec rfl (pc0 := 20) rfl (hb hbytes d20) rfl (ii_le_t (hp i (by omega))) (by decide) rfl ?_
        refine XS.aloadN Xl.here hexec rfl (hb hbytes d26) rfl rfl ?_
        refine XS.iloadN Xl.here hexec rfl (hb hbytes d27) rfl ?_
        refine XS.iload Xl.here hexec rfl (hb hbytes d28) rfl ?_
        refine i2b Xl.here hexec rfl (hb hbytes d30) rfl ?_
        exact Steps.refl _)
      obtain ⟨T7, X7, p7, st7⟩ := Xl.aput hexec hBk rfl hlt rfl (fits_lo8 (cv A (o + i))) (g := (mkF m 31 #[.val (.ref b), .val (.int (Int32.ofNat (o + i))), .val (.ref d), .val (.int (Int32.ofNat (q + i))), .val (.int (Int32.ofNat len)), .val (.int (Int32.ofNat i)), .val (.int (cv A (o + i)))] [.int (lo8 (cv A (o + i))), .int (Int32.ofNat (q + i)), .ref d])) rfl (rest := []) rfl (hb hbytes d31)
      have c8 : Steps p.tables e below (s₁.setTop (entryFrame m #[.ref b, .int (Int32.ofNat o), .ref d, .int (Int32.ofNat q), .int (Int32.ofNat len)] 7)) (T7.setTop (mkF m 32 #[.val (.ref b), .val (.int (Int32.ofNat (o + i))), .val (.ref d), .val (.int (Int32.ofNat (q + i))), .val (.int (Int32.ofNat len)), .val (.int (Int32.ofNat i)), .val (.int (cv A (o + i)))] [])) := c6.trans (st7 _ (Steps.refl _))
      have c9 : Steps p.tables e below (s₁.setTop (entryFrame m #[.ref b, .int (Int32.ofNat o), .ref d, .int (Int32.ofNat q), .int (Int32.ofNat len)] 7)) (T7.setTop (mkF m 3 #[.val (.ref b), .val (.int (Int32.ofNat (o + i) + 1)), .val (.ref d), .val (.int (Int32.ofNat (q + i) + 1)), .val (.int (Int32.ofNat len)), .val (.int (Int32.ofNat i + 1)), .val (.int (cv A (o + i)))] [])) := c8.trans (by
        refine iincV X7.here hexec rfl 1 (hb hbytes d32) (by decide) rfl rfl ?_
        refine iincV X7.here hexec rfl 1 (hb hbytes d35) (by decide) rfl rfl ?_
        refine iincV X7.here hexec rfl 1 (hb hbytes d38) (by decide) rfl rfl ?_
        refine XS.goto X7.here hexec rfl (pc0 := 41) rfl (hb hbytes d41) (by decide) rfl ?_
        exact Steps.refl _)
      have c10 : Steps p.tables e below (s₁.setTop (entryFrame m #[.ref b, .int (Int32.ofNat o), .ref d, .int (Int32.ofNat q), .int (Int32.ofNat len)] 7)) (T7.setTop (mkF m 3 #[.val (.ref b), .val (.int (Int32.ofNat (o + (i + 1)))), .val (.ref d), .val (.int (Int32.ofNat (q + (i + 1)))), .val (.int (Int32.ofNat len)), .val (.int (Int32.ofNat (i + 1))), .val (.int (cv A (o + i)))] [])) := by
        have := c9
        rw [succ32, succ32, succ32] at this
        exact this
      exact ih (i + 1) (by omega) _ (Or.inr ⟨_, rfl, rfl⟩) T7 _ (by rw [copyLocs_step, ← List.append_assoc]; exact X7) (pl.trans p7) (fl.step (by omega) hlt (by simp)) c10
  obtain ⟨T9, B9, z9, X9, p9, f9, g9⟩ := loop len 0 (by omega) .unset (Or.inl rfl) s₁ B (by simpa [copyLocs] using X0) ⟨hB0.1, fun _ _ => rfl, rfl⟩ (Laid.zero _ _ _) c2
  have c11 : Steps p.tables e below (s₁.setTop (entryFrame m #[.ref b, .int (Int32.ofNat o), .ref d, .int (Int32.ofNat q), .int (Int32.ofNat len)] 7)) (T9.setTop (mkF m 46 #[.val (.ref b), .val (.int (Int32.ofNat (o + len))), .val (.ref d), .val (.int (Int32.ofNat (q + len))), .val (.int (Int32.ofNat len)), .val (.int (Int32.ofNat len)), z9] [.int (Int32.ofNat len)])) := g9.trans (by
    refine XS.iload X9.here hexec rfl (hb hbytes d3) rfl ?_
    refine XS.iload X9.here hexec rfl (hb hbytes d5) rfl ?_
    refine XS.icmpYes X9.here hexec rfl (pc0 := 7) rfl (hb hbytes d7) rfl (ii_ge_t (nlt32 (by omega) (Nat.le_refl _))) (by decide) rfl ?_
    refine XS.iload X9.here hexec rfl (hb hbytes d44) rfl ?_
    exact Steps.refl _)
  exact ⟨T9, some (.int (Int32.ofNat len)), _, _, _, X9, by simp, rfl, rfl, (fun h => by cases h), ⟨rfl, B9, p9.from hh0, f9⟩, fun fs hl => c11.trans (X9.ireturnOut hexec hret rfl (Or.inl rfl) (hb hbytes d46) hl)⟩
end Cmp5
namespace Cmp3
def yN : MethodName := ⟨"java/lang/StringUTF16", "compress", "([CII)[B"⟩
abbrev yB : ByteArray := jdk_52_method_16_code
theorem d0 : decode yB 0 = .ok (.iload_n 2, 1) := by decide +kernel
theorem d1 : decode yB 1 = .ok (.newarray .byte, 2) := by decide +kernel
theorem d3 : decode yB 3 = .ok (.astore_n 3, 1) := by decide +kernel
theorem d4 : decode yB 4 = .ok (.aload_n 0, 1) := by decide +kernel
theorem d5 : decode yB 5 = .ok (.iload_n 1, 1) := by decide +kernel
theorem d6 : decode yB 6 = .ok (.aload_n 3, 1) := by decide +kernel
theorem d7 : decode yB 7 = .ok (.iconst 0, 1) := by decide +kernel
theorem d8 : decode yB 8 = .ok (.iload_n 2, 1) := by decide +kernel
theorem d9 : decode yB 9 = .ok (.invokestatic 115, 3) := by decide +kernel
theorem d12 : decode yB 12 = .ok (.istore 4, 2) := by decide +kernel
theorem d14 : decode yB 14 = .ok (.iload 4, 2) := by decide +kernel
theorem d16 : decode yB 16 = .ok (.iload_n 2, 1) := by decide +kernel
theorem d17 : decode yB 17 = .ok (.if_icmp (.eq) 40, 3) := by decide +kernel
theorem d57 : decode yB 57 = .ok (.aload_n 3, 1) := by decide +kernel
theorem d58 : decode yB 58 = .ok (.areturn, 1) := by decide +kernel
def site : List Cond := [.arrayClass .byte, Cmp5.tab] ++ staticW U16 115 Cmp5.yN
def tab : Cond := tabOf yN yB 6 (some (.array .byte)) site
def P (b : Addr) (A : Cell) (o len : Nat) (args : Array Value) (s : State) : Prop := args = #[.ref b, .int (Int32.ofNat o), .int (Int32.ofNat len)] ∧ Ch b A s ∧ o + len ≤ A.slots.size ∧ len ≤ 536870912 ∧ ∀ i, i < len → ¬ 255 < cv A (o + i)
def E (b : Addr) (A : Cell) (o len : Nat) (r : Option Value) (s u : State) : Prop := NewArr .byte "[B" len (fun j => .int (lo8 (cv A (o + j)))) r s u ∧ u.heap.size = s.heap.size + 1
/-- no char of the range above 255: a new byte[] of their low bytes -/
theorem law (l : Launch) (b : Addr) (A : Cell) (o len : Nat) : Law l yN 3 3 1 18 yB 6 (some (.array .byte)) site (P b A o len) (E b A o len) [] 1 len := by
  refine Law.of_walk (plainFor_of_name (by decide +kernel)) (by decide +kernel) (by decide +kernel) (by decide) (fun _ _ h => by rw [h.1]; rfl) (fun _ U U' hal hh h => ⟨h.1, h.2.1.mv hal hh, h.2.2⟩) (fun r U U' V V' h1 hal h2 h => ⟨NewArr.mv r U U' V V' h1 hal h2 h.1, by rw [h1, h2]; exact h.2⟩) ?_
  intro p e s m args below meth c s₁ X0 hexec hbytes hml hret hlk hnm hown hh0 W hP
  obtain ⟨rfl, hA, l1, l2, hp⟩ := hP
  have a31 := hA.1.2.2.2
  have c1 : Steps p.tables e below (s₁.setTop (entryFrame m #[.ref b, .int (Int32.ofNat o), .int (Int32.ofNat len)] 6)) (s₁.setTop (mkF m 0 #[.val (.ref b), .val (.int (Int32.ofNat o)), .val (.int (Int32.ofNat len)), .unset, .unset, .unset] [])) := entry rfl
  have c2 : Steps p.tables e below (s₁.setTop (entryFrame m #[.ref b, .int (Int32.ofNat o), .int (Int32.ofNat len)] 6)) (s₁.setTop (mkF m 1 #[.val (.ref b), .val (.int (Int32.ofNat o)), .val (.int (Int32.ofNat len)), .unset, .unset, .unset] [.int (Int32.ofNat len)])) := c1.trans (by
    refine XS.iloadN X0.here hexec rfl (hb hbytes d0) rfl ?_
    exact Steps.refl _)
  obtain ⟨T3, B3, X3, ba3, bs3, bv3, bh3, bf3, st3⟩ := X0.anew hexec (atype := .byte) (wk W (.arrayClass .byte)) rfl (by show len * 1 ≤ _; omega) (by omega) (g := (mkF m 1 #[.val (.ref b), .val (.int (Int32.ofNat o)), .val (.int (Int32.ofNat len)), .unset, .unset, .unset] [.int (Int32.ofNat len)])) rfl (hb hbytes d1) (rest := []) rfl (Nat.le_refl _) (by show 0 + len ≤ len; omega)
  rw [hh0] at ba3 st3
  have kp3 : XT.Kept s T3 := (XT.Kept.of_eq hh0).push bh3
  have hA3 := hA.keep X3.warmed.alike (kp3 _ _ hA.1.1)
  have hne : b ≠ s.heap.size := hA.1.ne
  have c4 : Steps p.tables e below (s₁.setTop (entryFrame m #[.ref b, .int (Int32.ofNat o), .int (Int32.ofNat len)] 6)) (T3.setTop (mkF m 3 #[.val (.ref b), .val (.int (Int32.ofNat o)), .val (.int (Int32.ofNat len)), .unset, .unset, .unset] [.ref s.heap.size])) := c2.trans (st3 _ (Steps.refl _))
  have c5 : Steps p.tables e below (s₁.setTop (entryFrame m #[.ref b, .int (Int32.ofNat o), .int (Int32.ofNat len)] 6)) (T3.setTop (mkF m 9 #[.val (.ref b), .val (.int (Int32.ofNat o)), .val (.int (Int32.ofNat len)), .val (.ref s.heap.size), .unset, .unset] [.int (Int32.ofNat len), .int 0, .ref s.heap.size, .int (Int32.ofNat o), .ref b])) := c4.trans (by
    refine XS.astoreN X3.here hexec rfl (hb hbytes d3) rfl rfl rfl ?_
    refine XS.aloadN X3.here hexec rfl (hb hbytes d4) rfl rfl ?_
    refine XS.iloadN X3.here hexec rfl (hb hbytes d5) rfl ?_
    refine XS.aloadN X3.here hexec rfl (hb hbytes d6) rfl rfl ?_
    refine iconstV X3.here hexec rfl 0 (hb hbytes d7) (by decide) ?_
    refine XS.iloadN X3.here hexec rfl (hb hbytes d8) rfl ?_
    exact Steps.refl _)
  obtain ⟨v6, T6, X6, E6, g6⟩ := X3.callS hexec (Cmp5.law l b A s.heap.size B3 o 0 len) hown (wks W (staticW U16 115 Cmp5.yN)) (wk W Cmp5.tab) (W := 0) (Nat.le_of_ble_eq_true rfl) (Nat.le_of_ble_eq_true rfl) (Nat.le_refl _) (by show 0 + len + 0 ≤ len; omega) (g := (mkF m 9 #[.val (.ref b), .val (.int (Int32.ofNat o)), .val (.int (Int32.ofNat len)), .val (.ref s.heap.size), .unset, .unset] [.int (Int32.ofNat len), .int (Int32.ofNat 0), .ref s.heap.size, .int (Int32.ofNat o), .ref b])) rfl (by rw [hml]; rfl) c5 (argsL := [.ref b, .int (Int32.ofNat o), .ref s.heap.size, .int (Int32.ofNat 0), .int (Int32.ofNat len)]) (rest := []) rfl rfl (by show 2 * 0 + 0 ≤ _; decide) (hb hbytes d9) (⟨rfl, hA3, ba3, hne, l1, by rw [bs3]; simp, hp⟩)
  obtain ⟨rfl, B6, p6, f6⟩ := E6
  have c7 : Steps p.tables e below (s₁.setTop (entryFrame m #[.ref b, .int (Int32.ofNat o), .int (Int32.ofNat len)] 6)) (T6.setTop (mkF m 12 #[.val (.ref b), .val (.int (Int32.ofNat o)), .val (.int (Int32.ofNat len)), .val (.ref s.heap.size), .unset, .unset] [.int (Int32.ofNat len)])) := g6
  have c8 : Steps p.tables e below (s₁.setTop (entryFrame m #[.ref b, .int (Int32.ofNat o), .int (Int32.ofNat len)] 6)) (T6.setTop (mkF m 58 #[.val (.ref b), .val (.int (Int32.ofNat o)), .val (.int (Int32.ofNat len)), .val (.ref s.heap.size), .val (.int (Int32.ofNat len)), .unset] [.ref s.heap.size])) := c7.trans (by
    refine XS.istore X6.here hexec rfl (hb hbytes d12) rfl rfl ?_
    refine XS.iload X6.here hexec rfl (hb hbytes d14) rfl ?_
    refine XS.iloadN X6.here hexec rfl (hb hbytes d16) rfl ?_
    refine XS.icmpYes X6.here hexec rfl (pc0 := 17) rfl (hb hbytes d17) rfl (ii_eq_t rfl) (by decide) rfl ?_
    refine XS.aloadN X6.here hexec rfl (hb hbytes d57) rfl rfl ?_
    exact Steps.refl _)
  have X8 := X6.wide (L' := []) (cells' := 1) (slots' := len) (fun x hx hlt => by
    simp only [List.nil_append, copyLocs, List.mem_map, List.mem_range] at hx
    obtain ⟨i, -, rfl⟩ := hx
    exact absurd hlt (Nat.lt_irrefl _)) (Nat.le_refl _) (by omega)
  exact ⟨T6, some (.ref s.heap.size), _, _, _, X8, rfl, rfl, rfl, (fun h => by cases h), ⟨⟨rfl, B6, ba3.like (X3.warmed.alike.symm.trans X6.warmed.alike) p6.1 f6.1 f6.2.1 f6.2.2.1, f6.2.1.trans bv3, by rw [X6.warmed.alike.findClass, f6.1]; exact bf3, by rw [f6.2.2.1, bs3]; simp, fun j hj => by rw [f6.2.2.2 j, if_pos (by omega)]; rfl, kp3.put p6 (Nat.le_refl _)⟩, by rw [p6.2.2, bh3, hh0]; simp⟩, fun fs hl => c8.trans (X8.areturnOut hexec rfl hret rfl (hb hbytes d58) hl)⟩
end Cmp3
namespace CodL
def yN : MethodName := ⟨"java/lang/StringUTF16", "coderFromArrayLen", "([BI)B"⟩
abbrev yB : ByteArray := jdk_52_method_15_code
theorem d0 : decode yB 0 = .ok (.iload_n 1, 1) := by decide +kernel
theorem d1 : decode yB 1 = .ok (.aload_n 0, 1) := by decide +kernel
theorem d2 : decode yB 2 = .ok (.arraylength, 1) := by decide +kernel
theorem d3 : decode yB 3 = .ok (.isub, 1) := by decide +kernel
theorem d4 : decode yB 4 = .ok (.bipush 31, 2) := by decide +kernel
theorem d6 : decode yB 6 = .ok (.iushr, 1) := by decide +kernel
theorem d7 : decode yB 7 = .ok (.i2b, 1) := by decide +kernel
theorem d8 : decode yB 8 = .ok (.ireturn, 1) := by decide +kernel
def site : List Cond := []
def tab : Cond := tabOf yN yB 2 (some .byte) site
def P (d : Addr) (B : Cell) (args : Array Value) (s : State) : Prop := args = #[.ref d, .int (Int32.ofNat B.slots.size)] ∧ Arr .byte d B s
def E (r : Option Value) (s u : State) : Prop := XT.PureE (some (.int 0)) r s u
/-- an array as long as the number of chars: LATIN1 -/
theorem law (l : Launch) (d : Addr) (B : Cell) : Law l yN 2 2 0 0 yB 2 (some .byte) site (P d B) E [] 0 0 := by
  refine Law.of_walk (plainFor_of_name (by decide +kernel)) (by decide +kernel) (by decide +kernel) (by decide) (fun _ _ h => by rw [h.1]; rfl) (fun _ U U' hal hh h => ⟨h.1, h.2.mv hal hh⟩) (fun r U U' V V' h1 hal h2 h => XT.PureE.mv r U U' V V' h1 hal h2 h) ?_
  intro p e s m args below meth c s₁ X0 hexec hbytes hml hret hlk hnm hown hh0 W hP
  obtain ⟨rfl, hB⟩ := hP
  have hB0 := hB.mv X0.warmed.alike hh0
  have c1 : Steps p.tables e below (s₁.setTop (entryFrame m #[.ref d, .int (Int32.ofNat B.slots.size)] 2)) (s₁.setTop (mkF m 0 #[.val (.ref d), .val (.int (Int32.ofNat B.slots.size))] [])) := entry rfl
  have c2 : Steps p.tables e below (s₁.setTop (entryFrame m #[.ref d, .int (Int32.ofNat B.slots.size)] 2)) (s₁.setTop (mkF m 2 #[.val (.ref d), .val (.int (Int32.ofNat B.slots.size))] [.ref d, .int (Int32.ofNat B.slots.size)])) := c1.trans (by
    refine XS.iloadN X0.here hexec rfl (hb hbytes d0) rfl ?_
    refine XS.aloadN X0.here hexec rfl (hb hbytes d1) rfl rfl ?_
    exact Steps.refl _)
  have c3 : Steps p.tables e below (s₁.setTop (entryFrame m #[.ref d, .int (Int32.ofNat B.slots.size)] 2)) (s₁.setTop (mkF m 8 #[.val (.ref d), .val (.int (Int32.ofNat B.slots.size))] [.int (lo8 (ushr (Int32.ofNat B.slots.size - Int32.ofNat B.slots.size) 31))])) := c2.trans (by
    refine X0.alen hexec hB0 rfl rfl (hb hbytes d2) ?_
    refine XS.isub X0.here hexec rfl (hb hbytes d3) rfl ?_
    refine bipushV X0.here hexec rfl 31 (hb hbytes d4) (by decide) ?_
    refine iushr X0.here hexec rfl (hb hbytes d6) rfl ?_
    refine i2b X0.here hexec rfl (hb hbytes d7) rfl ?_
    exact Steps.refl _)
  have e0 : lo8 (ushr (Int32.ofNat B.slots.size - Int32.ofNat B.slots.size) 31) = 0 := by rw [Int32.sub_self]; decide
  rw [e0] at c3
  exact ⟨s₁, some (.int 0), _, _, _, X0, rfl, rfl, rfl, (fun h => by cases h), ⟨rfl, hh0⟩, fun fs hl => c3.trans (X0.ireturnOut hexec hret rfl (Or.inr (Or.inr (Or.inl rfl))) (hb hbytes d8) hl)⟩
end CodL
/-- the String at a is Latin-1 over a new byte[] (the heap's one new cell): the low bytes of the len chars of A from o on; every cell but a is kept -/
def Got (a : Addr) (D : Cell) (fV fC : Field) (A : Cell) (o len : Nat) (r : Option Value) (s u : State) : Prop := r = none ∧ ∃ D' V : Cell, Blank "java/lang/String" a D' u ∧ Same D D' [fV.slot, fC.slot] ∧ D'.slots[fV.slot]? = some (.ref s.heap.size) ∧ D'.slots[fC.slot]? = some (.int 0) ∧ Arr .byte s.heap.size V u ∧ V.vm = .none ∧ u.vm.findClass "[B" = some V.cls ∧ V.slots.size = len ∧ (∀ j, j < len → V.slots[j]? = some (.int (lo8 (cv A (o + j))))) ∧ (∀ (y : Addr) (c : Cell), y ≠ a → s.heap[y]? = some c → u.heap[y]? = some c) ∧ u.heap.size = s.heap.size + 1
theorem Got.mv {a : Addr} {D A : Cell} {fV fC : Field} {o len : Nat} : ∀ r (U U' V V' : State), U'.heap = U.heap → V.vm.Alike V'.vm → V'.heap = V.heap → Got a D fV fC A o len r U V → Got a D fV fC A o len r U' V' :=
  fun r U U' V V' h1 hal h2 ⟨e0, D', X, a1, a2, a3, a4, a5, a6, a7, a8, a9, a10, a11⟩ => ⟨e0, D', X, a1.mv hal h2, a2, by rw [h1]; exact a3, a4, by rw [h1]; exact a5.mv hal h2, a6, by rw [hal.findClass]; exact a7, a8, a9, by rw [h1, h2]; exact a10, by rw [h1, h2]; exact a11⟩
namespace New4
def yN : MethodName := ⟨"java/lang/String", "<init>", "([CIILjava/lang/Void;)V"⟩
abbrev yB : ByteArray := jdk_42_method_149_code
theorem d0 : decode yB 0 = .ok (.aload_n 0, 1) := by decide +kernel
theorem d1 : decode yB 1 = .ok (.invokespecial 1, 3) := by decide +kernel
theorem d4 : decode yB 4 = .ok (.iload_n 3, 1) := by decide +kernel
theorem d5 : decode yB 5 = .ok (.ifCond (.ne) 22, 3) := by decide +kernel
theorem d27 : decode yB 27 = .ok (.getstatic 38, 3) := by decide +kernel
theorem d30 : decode yB 30 = .ok (.ifCond (.eq) 28, 3) := by decide +kernel
theorem d33 : decode yB 33 = .ok (.aload_n 1, 1) := by decide +kernel
theorem d34 : decode yB 34 = .ok (.iload_n 2, 1) := by decide +kernel
theorem d35 : decode yB 35 = .ok (.iload_n 3, 1) := by decide +kernel
theorem d36 : decode yB 36 = .ok (.invokestatic 177, 3) := by decide +kernel
theorem d39 : decode yB 39 = .ok (.astore 5, 2) := by decide +kernel
theorem d41 : decode yB 41 = .ok (.aload_n 0, 1) := by decide +kernel
theorem d42 : decode yB 42 = .ok (.aload 5, 2) := by decide +kernel
theorem d44 : decode yB 44 = .ok (.iload_n 3, 1) := by decide +kernel
theorem d45 : decode yB 45 = .ok (.invokestatic 47, 3) := by decide +kernel
theorem d48 : decode yB 48 = .ok (.putfield 15, 3) := by decide +kernel
theorem d51 : decode yB 51 = .ok (.aload_n 0, 1) := by decide +kernel
theorem d52 : decode yB 52 = .ok (.aload 5, 2) := by decide +kernel
theorem d54 : decode yB 54 = .ok (.putfield 9, 3) := by decide +kernel
theorem d57 : decode yB 57 = .ok (.return_, 1) := by decide +kernel
def site : List Cond := [.fieldLink "java/lang/String" 38 "java/lang/String" "COMPACT_STRINGS" "Z", Cmp3.tab, CodL.tab, .laysFinal "java/lang/String" "java/lang/String" "value" "[B", .fieldLink "java/lang/String" 9 "java/lang/String" "value" "[B", .laysFinal "java/lang/String" "java/lang/String" "coder" "B", .fieldLink "java/lang/String" 15 "java/lang/String" "coder" "B"] ++ objW "java/lang/String" 1 ++ staticW "java/lang/String" 177 Cmp3.yN ++ staticW "java/lang/String" 47 CodL.yN
def tab : Cond := tabOf yN yB 6 none site
def P (a : Addr) (D : Cell) (fV fC : Field) (b : Addr) (A : Cell) (z : Int32) (o len : Nat) (args : Array Value) (s : State) : Prop := args = #[.ref a, .ref b, .int (Int32.ofNat o), .int (Int32.ofNat len), .null] ∧ Blank "java/lang/String" a D s ∧ Found "java/lang/String" "value" "[B" fV s ∧ Found "java/lang/String" "coder" "B" fC s ∧ Ch b A s ∧ StaticIs s "java/lang/String" "COMPACT_STRINGS" "Z" (.int z) ∧ ¬ z = 0 ∧ 0 < len ∧ o + len ≤ A.slots.size ∧ len ≤ 536870912 ∧ ∀ i, i < len → ¬ 255 < cv A (o + i)
def E (a : Addr) (D : Cell) (fV fC : Field) (A : Cell) (o len : Nat) (r : Option Value) (s u : State) : Prop := Got a D fV fC A o len r s u
/-- len > 0, no char of the range above 255: a Latin-1 String of their low bytes -/
theorem law (l : Launch) (a : Addr) (D : Cell) (fV fC : Field) (b : Addr) (A : Cell) (z : Int32) (o len : Nat) : Law l yN 5 4 2 35 yB 6 none site (P a D fV fC b A z o len) (E a D fV fC A o len) [⟨a, fC.slot⟩, ⟨a, fV.slot⟩] 1 len := by
  refine Law.of_walk (plainFor_of_name (by decide +kernel)) (by decide +kernel) (by decide +kernel) (by decide) (fun _ _ h => by rw [h.1]; rfl) (fun _ U U' hal hh h => ⟨h.1, h.2.1.mv hal hh, h.2.2.1.al hal, h.2.2.2.1.al hal, h.2.2.2.2.1.mv hal hh, h.2.2.2.2.2.1.there hal hh, h.2.2.2.2.2.2⟩) (fun r U U' V V' h1 hal h2 h => Got.mv r U U' V V' h1 hal h2 h) ?_
  intro p e s m args below meth c s₁ X0 hexec hbytes hml hret hlk hnm hown hh0 W hP
  obtain ⟨rfl, hB, f1, f2, hA, s1, hz, l0, l1, l2, hp⟩ := hP
  have a31 := hA.1.2.2.2
  have c1 : Steps p.tables e below (s₁.setTop (entryFrame m #[.ref a, .ref b, .int (Int32.ofNat o), .int (Int32.ofNat len), .null] 6)) (s₁.setTop (mkF m 0 #[.val (.ref a), .val (.ref b), .val (.int (Int32.ofNat o)), .val (.int (Int32.ofNat len)), .val .null, .unset] [])) := entry rfl
  have c2 : Steps p.tables e below (s₁.setTop (entryFrame m #[.ref a, .ref b, .int (Int32.ofNat o), .int (Int32.ofNat len), .null] 6)) (s₁.setTop (mkF m 1 #[.val (.ref a), .val (.ref b), .val (.int (Int32.ofNat o)), .val (.int (Int32.ofNat len)), .val .null, .unset] [.ref a])) := c1.trans (by
    refine XS.aloadN X0.here hexec rfl (hb hbytes d0) rfl rfl ?_
    exact Steps.refl _)
  obtain ⟨T3, X3, q3, st3⟩ := X0.oinit hexec hown (wks W (objW "java/lang/String" 1)) (g := (mkF m 1 #[.val (.ref a), .val (.ref b), .val (.int (Int32.ofNat o)), .val (.int (Int32.ofNat len)), .val .null, .unset] [.ref a])) rfl (by rw [hml]; rfl) (rest := []) rfl (hb hbytes d1) (W := 0) (by show 2 * 0 + 0 ≤ _; decide) (Nat.le_of_ble_eq_true rfl) (Nat.le_of_ble_eq_true rfl)
  have hh3 := q3.trans hh0
  have c4 : Steps p.tables e below (s₁.setTop (entryFrame m #[.ref a, .ref b, .int (Int32.ofNat o), .int (Int32.ofNat len), .null] 6)) (T3.setTop (mkF m 27 #[.val (.ref a), .val (.ref b), .val (.int (Int32.ofNat o)), .val (.int (Int32.ofNat len)), .val .null, .unset] [])) := (c2.trans (st3 _ (Steps.refl _))).trans (by
    refine XS.iloadN X3.here hexec rfl (hb hbytes d4) rfl ?_
    refine XS.ifYes X3.here hexec rfl (pc0 := 5) rfl (hb hbytes d5) rfl (i0_ne_t (nz32 (by omega) l0)) (by decide) rfl ?_
    exact Steps.refl _)
  obtain ⟨T5, X5, q5, st5⟩ := X3.sget hexec hown (wk W (.fieldLink "java/lang/String" 38 "java/lang/String" "COMPACT_STRINGS" "Z")) s1 (fun _ _ h => by rw [hh3]; exact h) (g := (mkF m 27 #[.val (.ref a), .val (.ref b), .val (.int (Int32.ofNat o)), .val (.int (Int32.ofNat len)), .val .null, .unset] [])) rfl (hb hbytes d27)
  have hh5 := q5.trans hh3
  have c6 : Steps p.tables e below (s₁.setTop (entryFrame m #[.ref a, .ref b, .int (Int32.ofNat o), .int (Int32.ofNat len), .null] 6)) (T5.setTop (mkF m 30 #[.val (.ref a), .val (.ref b), .val (.int (Int32.ofNat o)), .val (.int (Int32.ofNat len)), .val .null, .unset] [.int z])) := c4.trans (st5 _ (Steps.refl _))
  have c7 : Steps p.tables e below (s₁.setTop (entryFrame m #[.ref a, .ref b, .int (Int32.ofNat o), .int (Int32.ofNat len), .null] 6)) (T5.setTop (mkF m 36 #[.val (.ref a), .val (.ref b), .val (.int (Int32.ofNat o)), .val (.int (Int32.ofNat len)), .val .null, .unset] [.int (Int32.ofNat len), .int (Int32.ofNat o), .ref b])) := c6.trans (by
    refine XS.ifNo X5.here hexec rfl (hb hbytes d30) rfl (i0_eq_f hz) ?_
    refine XS.aloadN X5.here hexec rfl (hb hbytes d33) rfl rfl ?_
    refine XS.iloadN X5.here hexec rfl (hb hbytes d34) rfl ?_
    refine XS.iloadN X5.here hexec rfl (hb hbytes d35) rfl ?_
    exact Steps.refl _)
  obtain ⟨v8, T8, X8, E8, g8⟩ := X5.callS hexec (Cmp3.law l b A o len) hown (wks W (staticW "java/lang/String" 177 Cmp3.yN)) (wk W Cmp3.tab) (W := 0) (Nat.le_of_ble_eq_true rfl) (Nat.le_of_ble_eq_true rfl) (Nat.le_refl _) (by show 0 + len ≤ len; omega) (g := (mkF m 36 #[.val (.ref a), .val (.ref b), .val (.int (Int32.ofNat o)), .val (.int (Int32.ofNat len)), .val .null, .unset] [.int (Int32.ofNat len), .int (Int32.ofNat o), .ref b])) rfl (by rw [hml]; rfl) c7 (argsL := [.ref b, .int (Int32.ofNat o), .int (Int32.ofNat len)]) (rest := []) rfl rfl (by show 2 * 0 + 0 ≤ _; decide) (hb hbytes d36) (⟨rfl, hA.mv X5.warmed.alike hh5, l1, l2, hp⟩)
  obtain ⟨e8, z8⟩ := E8
  obtain ⟨rfl, N, n1, n2, n3, n4, n5, n6⟩ := NewArr.mv _ T5 s _ _ hh5.symm (Vm.Alike.refl _) rfl e8
  rw [hh5] at z8
  have hB1 := hB.keep X8.warmed.alike (n6 _ _ hB.1)
  have hne : s.heap.size ≠ a := (Nat.ne_of_lt (Array.getElem?_eq_some_iff.mp hB.1).1).symm
  have c9 : Steps p.tables e below (s₁.setTop (entryFrame m #[.ref a, .ref b, .int (Int32.ofNat o), .int (Int32.ofNat len), .null] 6)) (T8.setTop (mkF m 39 #[.val (.ref a), .val (.ref b), .val (.int (Int32.ofNat o)), .val (.int (Int32.ofNat len)), .val .null, .unset] [.ref s.heap.size])) := g8
  have c10 : Steps p.tables e below (s₁.setTop (entryFrame m #[.ref a, .ref b, .int (Int32.ofNat o), .int (Int32.ofNat len), .null] 6)) (T8.setTop (mkF m 45 #[.val (.ref a), .val (.ref b), .val (.int (Int32.ofNat o)), .val (.int (Int32.ofNat len)), .val .null, .val (.ref s.heap.size)] [.int (Int32.ofNat N.slots.size), .ref s.heap.size, .ref a])) := by
    have hc : Steps p.tables e below (s₁.setTop (entryFrame m #[.ref a, .ref b, .int (Int32.ofNat o), .int (Int32.ofNat len), .null] 6)) (T8.setTop (mkF m 45 #[.val (.ref a), .val (.ref b), .val (.int (Int32.ofNat o)), .val (.int (Int32.ofNat len)), .val .null, .val (.ref s.heap.size)] [.int (Int32.ofNat len), .ref s.heap.size, .ref a])) := c9.trans (by
      refine XS.astore X8.here hexec rfl (hb hbytes d39) rfl rfl rfl ?_
      refine XS.aloadN X8.here hexec rfl (hb hbytes d41) rfl rfl ?_
      refine XS.aload X8.here hexec rfl (hb hbytes d42) rfl rfl ?_
      refine XS.iloadN X8.here hexec rfl (hb hbytes d44) rfl ?_
      exact Steps.refl _)
    rw [n4]; exact hc
  obtain ⟨v11, T11, X11, E11, g11⟩ := X8.callS hexec (CodL.law l s.heap.size N) hown (wks W (staticW "java/lang/String" 47 CodL.yN)) (wk W CodL.tab) (W := 1) (Nat.le_of_ble_eq_true rfl) (Nat.le_of_ble_eq_true rfl) (Nat.le_refl _) (by show 0 + len + 0 ≤ len; omega) (g := (mkF m 45 #[.val (.ref a), .val (.ref b), .val (.int (Int32.ofNat o)), .val (.int (Int32.ofNat len)), .val .null, .val (.ref s.heap.size)] [.int (Int32.ofNat N.slots.size), .ref s.heap.size, .ref a])) rfl (by rw [hml]; rfl) c10 (argsL := [.ref s.heap.size, .int (Int32.ofNat N.slots.size)]) (rest := [.ref a]) rfl rfl (by show 2 * 0 + (1 + 0) ≤ _; decide) (hb hbytes d45) (⟨rfl, n1⟩)
  obtain ⟨rfl, q11⟩ := E11
  have hB11 := hB1.mv (X8.warmed.alike.symm.trans X11.warmed.alike) q11
  have c12 : Steps p.tables e below (s₁.setTop (entryFrame m #[.ref a, .ref b, .int (Int32.ofNat o), .int (Int32.ofNat len), .null] 6)) (T11.setTop (mkF m 48 #[.val (.ref a), .val (.ref b), .val (.int (Int32.ofNat o)), .val (.int (Int32.ofNat len)), .val .null, .val (.ref s.heap.size)] [.int 0, .ref a])) := g11
  obtain ⟨T13, X13, p13, bl13, sl13, st13⟩ := X11.finit hexec hown (wk W (.fieldLink "java/lang/String" 15 "java/lang/String" "coder" "B")) (Or.inr ⟨_, (wk W (.laysFinal "java/lang/String" "java/lang/String" "coder" "B"))⟩) (Or.inl ⟨rfl, hnm⟩) f2 (Or.inl rfl) hB11 (t := .byte) (by decide +kernel) rfl (g := (mkF m 48 #[.val (.ref a), .val (.ref b), .val (.int (Int32.ofNat o)), .val (.int (Int32.ofNat len)), .val .null, .val (.ref s.heap.size)] [.int 0, .ref a])) rfl (rest := []) rfl (hb hbytes d48)
  have c14 : Steps p.tables e below (s₁.setTop (entryFrame m #[.ref a, .ref b, .int (Int32.ofNat o), .int (Int32.ofNat len), .null] 6)) (T13.setTop (mkF m 54 #[.val (.ref a), .val (.ref b), .val (.int (Int32.ofNat o)), .val (.int (Int32.ofNat len)), .val .null, .val (.ref s.heap.size)] [.ref s.heap.size, .ref a])) := (c12.trans (st13 _ (Steps.refl _))).trans (by
    refine XS.aloadN X13.here hexec rfl (hb hbytes d51) rfl rfl ?_
    refine XS.aload X13.here hexec rfl (hb hbytes d52) rfl rfl ?_
    exact Steps.refl _)
  obtain ⟨T15, X15, p15, bl15, sl15, st15⟩ := X13.finit hexec hown (wk W (.fieldLink "java/lang/String" 9 "java/lang/String" "value" "[B")) (Or.inr ⟨_, (wk W (.laysFinal "java/lang/String" "java/lang/String" "value" "[B"))⟩) (Or.inl ⟨rfl, hnm⟩) f1 (Or.inl rfl) bl13 (t := (.array .byte)) (by decide +kernel) rfl (g := (mkF m 54 #[.val (.ref a), .val (.ref b), .val (.int (Int32.ofNat o)), .val (.int (Int32.ofNat len)), .val .null, .val (.ref s.heap.size)] [.ref s.heap.size, .ref a])) rfl (rest := []) rfl (hb hbytes d54)
  have c16 : Steps p.tables e below (s₁.setTop (entryFrame m #[.ref a, .ref b, .int (Int32.ofNat o), .int (Int32.ofNat len), .null] 6)) (T15.setTop (mkF m 57 #[.val (.ref a), .val (.ref b), .val (.int (Int32.ofNat o)), .val (.int (Int32.ofNat len)), .val .null, .val (.ref s.heap.size)] [])) := c14.trans (st15 _ (Steps.refl _))
  have ap := apart (Or.inr ⟨_, (wk W (.laysFinal "java/lang/String" "java/lang/String" "value" "[B"))⟩) (Or.inr ⟨_, (wk W (.laysFinal "java/lang/String" "java/lang/String" "coder" "B"))⟩) f1 f2 (t₁ := .array .byte) (t₂ := .byte) (by decide +kernel) (by decide +kernel) (by decide)
  have al := X8.warmed.alike.symm.trans X15.warmed.alike
  have n7 : T11.heap[s.heap.size]? = some N := by rw [q11]; exact n1.1
  exact ⟨T15, none, _, _, _, X15, by simp, rfl, by omega, (fun _ => rfl), ⟨rfl, _, N, bl15, ((Same.refl D _).set _ (by simp)).set _ (by simp), sl15, (Cell.slots_setSlot_ne _ ap).trans sl13, n1.keep al (p15.other hne (p13.other hne n7)), n2, by rw [al.findClass]; exact n3, n4, n5, fun y c h1 h2 => p15.other h1 (p13.other h1 (by rw [q11]; exact n6 y c h2)), by rw [p15.2.2, p13.2.2, q11]; exact z8⟩, fun fs hl => c16.trans (X15.returnOut hexec hret (hb hbytes d57) hl)⟩
end New4
namespace New1
def yN : MethodName := ⟨"java/lang/String", "<init>", "([C)V"⟩
abbrev yB : ByteArray := jdk_42_method_3_code
theorem d0 : decode yB 0 = .ok (.aload_n 0, 1) := by decide +kernel
theorem d1 : decode yB 1 = .ok (.aload_n 1, 1) := by decide +kernel
theorem d2 : decode yB 2 = .ok (.iconst 0, 1) := by decide +kernel
theorem d3 : decode yB 3 = .ok (.aload_n 1, 1) := by decide +kernel
theorem d4 : decode yB 4 = .ok (.arraylength, 1) := by decide +kernel
theorem d5 : decode yB 5 = .ok (.aconst_null, 1) := by decide +kernel
theorem d6 : decode yB 6 = .ok (.invokespecial 27, 3) := by decide +kernel
theorem d9 : decode yB 9 = .ok (.return_, 1) := by decide +kernel
def site : List Cond := [New4.tab] ++ initW "java/lang/String" 27 New4.yN
def tab : Cond := tabOf yN yB 2 none site
def P (a : Addr) (D : Cell) (fV fC : Field) (b : Addr) (A : Cell) (z : Int32) (args : Array Value) (s : State) : Prop := args = #[.ref a, .ref b] ∧ Blank "java/lang/String" a D s ∧ Found "java/lang/String" "value" "[B" fV s ∧ Found "java/lang/String" "coder" "B" fC s ∧ Ch b A s ∧ StaticIs s "java/lang/String" "COMPACT_STRINGS" "Z" (.int z) ∧ ¬ z = 0 ∧ 0 < A.slots.size ∧ A.slots.size ≤ 536870912 ∧ ∀ i, i < A.slots.size → ¬ 255 < cv A i
def E (a : Addr) (D : Cell) (fV fC : Field) (A : Cell) (r : Option Value) (s u : State) : Prop := Got a D fV fC A 0 A.slots.size r s u
/-- new String(chars), not empty, no char above 255: a Latin-1 String of their low bytes -/
theorem law (l : Launch) (a : Addr) (D : Cell) (fV fC : Field) (b : Addr) (A : Cell) (z : Int32) : Law l yN 2 1 3 52 yB 2 none site (P a D fV fC b A z) (E a D fV fC A) [⟨a, fC.slot⟩, ⟨a, fV.slot⟩] 1 A.slots.size := by
  refine Law.of_walk (plainFor_of_name (by decide +kernel)) (by decide +kernel) (by decide +kernel) (by decide) (fun _ _ h => by rw [h.1]; rfl) (fun _ U U' hal hh h => ⟨h.1, h.2.1.mv hal hh, h.2.2.1.al hal, h.2.2.2.1.al hal, h.2.2.2.2.1.mv hal hh, h.2.2.2.2.2.1.there hal hh, h.2.2.2.2.2.2⟩) (fun r U U' V V' h1 hal h2 h => Got.mv r U U' V V' h1 hal h2 h) ?_
  intro p e s m args below meth c s₁ X0 hexec hbytes hml hret hlk hnm hown hh0 W hP
  obtain ⟨rfl, hB, f1, f2, hA, s1, hz, l0, l2, hp⟩ := hP
  have c1 : Steps p.tables e below (s₁.setTop (entryFrame m #[.ref a, .ref b] 2)) (s₁.setTop (mkF m 0 #[.val (.ref a), .val (.ref b)] [])) := entry rfl
  have c2 : Steps p.tables e below (s₁.setTop (entryFrame m #[.ref a, .ref b] 2)) (s₁.setTop (mkF m 6 #[.val (.ref a), .val (.ref b)] [.null, .int (Int32.ofNat A.slots.size), .int 0, .ref b, .ref a])) := c1.trans (by
    refine XS.aloadN X0.here hexec rfl (hb hbytes d0) rfl rfl ?_
    refine XS.aloadN X0.here hexec rfl (hb hbytes d1) rfl rfl ?_
    refine iconstV X0.here hexec rfl 0 (hb hbytes d2) (by decide) ?_
    refine XS.aloadN X0.here hexec rfl (hb hbytes d3) rfl rfl ?_
    refine X0.alen hexec (hA.1.mv X0.warmed.alike hh0) rfl rfl (hb hbytes d4) ?_
    refine XS.aconstNull X0.here hexec rfl (hb hbytes d5) ?_
    exact Steps.refl _)
  obtain ⟨v3, T3, X3, E3, g3⟩ := X0.callN hexec (New4.law l a D fV fC b A z 0 A.slots.size) rfl hown (wks W (initW "java/lang/String" 27 New4.yN)) (W New4.tab (by simp only [site, List.mem_cons, List.mem_append, true_or, or_true])) (W := 0) (Nat.le_of_ble_eq_true rfl) (Nat.le_of_ble_eq_true rfl) (Nat.le_refl _) (by show 0 + A.slots.size ≤ A.slots.size; omega) (g := (mkF m 6 #[.val (.ref a), .val (.ref b)] [.null, .int (Int32.ofNat A.slots.size), .int (Int32.ofNat 0), .ref b, .ref a])) rfl (by rw [hml]; rfl) c2 (argsL := [.ref b, .int (Int32.ofNat 0), .int (Int32.ofNat A.slots.size), .null]) (rest := []) rfl rfl (by show 2 * 0 + 0 ≤ _; decide) (hb hbytes d6) (⟨rfl, hB.mv X0.warmed.alike hh0, f1.al X0.warmed.alike, f2.al X0.warmed.alike, hA.mv X0.warmed.alike hh0, s1.there X0.warmed.alike hh0, hz, l0, by omega, l2, fun i hi => by rw [Nat.zero_add]; exact hp i hi⟩)
  have e0 := Got.mv _ s₁ s _ _ hh0.symm (Vm.Alike.refl _) rfl E3
  obtain rfl := e0.1
  have c4 : Steps p.tables e below (s₁.setTop (entryFrame m #[.ref a, .ref b] 2)) (T3.setTop (mkF m 9 #[.val (.ref a), .val (.ref b)] [])) := g3
  exact ⟨T3, none, _, _, _, X3, by simp, rfl, by omega, (fun _ => rfl), e0, fun fs hl => c4.trans (X3.returnOut hexec hret (hb hbytes d9) hl)⟩
theorem pays {l : Launch} {R : Room} {p : Program} {e : Env} {below : List Frame} {s : State} {sargs : Array Value} {len W : Nat} (a : Addr) (D : Cell) (fV fC : Field) (b : Addr) (A : Cell) (z : Int32) (htab : tab.before sargs s = true) (hfr : 4 ≤ R.frames) (hlo : W + 65 ≤ R.locals) :
    Back l R p e below s sargs yN len W (fun A₁ a₁ => A₁.cells + 1 ≤ R.cells ∧ A₁.slots + A.slots.size ≤ R.slots ∧ P a D fV fC b A z a₁ A₁.U) (fun A₁ _ v₁ B₁ => E a D fV fC A v₁ A₁.U B₁.U ∧ B₁.locs = A₁.locs ++ [⟨a, fC.slot⟩, ⟨a, fV.slot⟩] ∧ B₁.cells = A₁.cells + 1 ∧ B₁.slots = A₁.slots + A.slots.size) :=
  (law l a D fV fC b A z).pays htab hfr (by omega)
end New1
/-- the byte, read back as charAt reads it, is the char -/
theorem lo8_mask {x : Int32} (h0 : ¬ x < 0) (h1 : ¬ 255 < x) : lo8 x &&& 255 = x := by
  have t : ∀ k : Fin 256, lo8 (Int32.ofNat k.val) &&& 255 = Int32.ofNat k.val := by decide +kernel
  rw [Int32.lt_iff_toInt_lt] at h0 h1
  have e0 : (0 : Int32).toInt = 0 := rfl
  have e1 : (255 : Int32).toInt = 255 := rfl
  obtain ⟨k, hk⟩ : ∃ k : Nat, x.toInt = k := ⟨x.toInt.toNat, by omega⟩
  have hx : x = Int32.ofNat k := Int32.toInt_inj.mp (by rw [hk, Int32.toInt_ofNat_small (by omega)])
  rw [hx]
  exact t ⟨k, by omega⟩
end StrChars
namespace StrChars.Road
open Jvm Sem ClassFile Op Lib Jvm.Stand Jvm.Free Jvm.Free.XT
open Jvm.Lib.Cold (StaticIs)
abbrev ST : String := "java/lang/String"
/-- every table word that New1's law asks, flat -/
abbrev words : List Jvm.Cond := [.code New1.yN New1.yB 2 none, .initialized ST, .methodLink ST 27 New4.yN, .instanceMethod New4.yN,
  .code New4.yN New4.yB 6 none, .fieldLink ST 38 ST "COMPACT_STRINGS" "Z", .laysFinal ST ST "value" "[B", .fieldLink ST 9 ST "value" "[B", .laysFinal ST ST "coder" "B", .fieldLink ST 15 ST "coder" "B",
  .methodLink ST 1 Lib.objectInit, .instanceMethod Lib.objectInit, .code Lib.objectInit ⟨#[0xb1]⟩ 1 none, .methodLink ST 177 Cmp3.yN, .static Cmp3.yN, .methodLink ST 47 CodL.yN, .static CodL.yN,
  .code Cmp3.yN Cmp3.yB 6 (some (.array .byte)), .initialized U16, .arrayClass .byte, .methodLink U16 115 Cmp5.yN, .static Cmp5.yN, .code Cmp5.yN Cmp5.yB 7 (some .int), .code CodL.yN CodL.yB 2 (some .byte)]
theorem tab_of {a : Array Value} {s : State} (h : ∀ w ∈ words, w.before a s = true) : New1.tab.before a s = true := by
  have h5 : Cmp5.tab.before a s = true := unparts (wk h (.code Cmp5.yN Cmp5.yB 7 (some .int))) (wks h (.initialized Cmp5.yN.cls :: Cmp5.site))
  have hc : CodL.tab.before a s = true := unparts (wk h (.code CodL.yN CodL.yB 2 (some .byte))) (wks h (.initialized CodL.yN.cls :: CodL.site))
  have q5 : ∀ w ∈ Cmp5.tab :: words, w.before a s = true := fun w hw => (List.mem_cons.mp hw).elim (fun e => e ▸ h5) (h w)
  have h3 : Cmp3.tab.before a s = true := unparts (wk q5 (.code Cmp3.yN Cmp3.yB 6 (some (.array .byte)))) (wks q5 (.initialized Cmp3.yN.cls :: Cmp3.site))
  have q3 : ∀ w ∈ Cmp3.tab :: CodL.tab :: words, w.before a s = true := fun w hw => (List.mem_cons.mp hw).elim (fun e => e ▸ h3) fun hw => (List.mem_cons.mp hw).elim (fun e => e ▸ hc) (h w)
  have h4 : New4.tab.before a s = true := unparts (wk q3 (.code New4.yN New4.yB 6 none)) (wks q3 (.initialized New4.yN.cls :: New4.site))
  have q4 : ∀ w ∈ New4.tab :: words, w.before a s = true := fun w hw => (List.mem_cons.mp hw).elim (fun e => e ▸ h4) (h w)
  exact unparts (wk q4 (.code New1.yN New1.yB 2 none)) (wks q4 (.initialized New1.yN.cls :: New1.site))
/-- the words ride from the start Z to the walk's own state -/
theorem moved {Z s : State} {a0 args : Array Value} (hZ : Z.Warmed39 s.vm) (hw : ∀ d ∈ words, d.before a0 Z = true) : ∀ d ∈ words, d.before args s = true := fun d hd => by
  have q := hw d hd
  have t : ∀ d ∈ words, d = .arrayClass .byte ∨ (d.onTables && d.keepsFace) = true := by decide +kernel
  rcases t d hd with rfl | t
  · exact RoadKit.mvA hZ q
  · exact RoadKit.mv hZ q t
/-- WHAT COMES BACK, over the tables of the start Z: h the heap at the call, h' behind it -/
def Q (Z : State) (x : Addr) (A : Cell) (h : Heap) (v : Option Value) (h' : Heap) (L : List Loc) : Prop := v = none ∧ (∀ y ∈ L, y.base = x) ∧ RoadKit.Keep h h' [x] ∧ h'.size = h.size + 1 ∧ RoadKit.Exa Z h' x ST ∧ RoadKit.Fld Z h' x ST "value" "[B" (.ref h.size) ∧ RoadKit.Fld Z h' x ST "coder" "B" (.int 0) ∧
  (∃ V : Cell, RoadKit.Arr Z h' h.size V .byte ∧ V.vm = .none ∧ Z.vm.findClass "[B" = some V.cls ∧ V.slots.size = A.slots.size ∧ ∀ j, j < A.slots.size → V.slots[j]? = some (.int (lo8 (cv A j)))) ∧
  ∀ (O n d : String) (w : Value), RoadKit.Fld Z h x O n d w → RoadKit.slotOf Z O n d ≠ RoadKit.slotOf Z ST "value" "[B" → RoadKit.slotOf Z O n d ≠ RoadKit.slotOf Z ST "coder" "B" → RoadKit.Fld Z h' x O n d w
/-- **new String(chars) AT A CALL, IN THE ROAD'S FORM**: for specialBack behind newO: x the fresh String, b the char[] with the cell A -/
theorem back {p : Program} {l : Launch} {e : Env} {R : Room} {s : State} {args : Array Value} {below : List Frame} {len W : Nat} {Z : State} {a0 : Array Value} {h : Heap} (hZ : Z.Warmed39 s.vm) (hw : ∀ d ∈ words, d.before a0 Z = true) {kI : Nat} (wi : (Jvm.Cond.instantiable ST kI).before a0 Z = true)
    {x b : Addr} {A : Cell} {z : Int32} {v0 c0 : Value} (E : RoadKit.Exa Z h x ST) (V : RoadKit.Fld Z h x ST "value" "[B" v0) (C : RoadKit.Fld Z h x ST "coder" "B" c0) (K : RoadKit.Arr Z h b A .char) (hty : Typed .char A) (S : RoadKit.Sta Z h ST "COMPACT_STRINGS" "Z" (.int z)) (hz : ¬ z = 0)
    (l0 : 0 < A.slots.size) (l2 : A.slots.size ≤ 536870912) (hp : ∀ i, i < A.slots.size → ¬ 255 < cv A i) (hfr : 4 ≤ R.frames) (hlo : W + 65 ≤ R.locals) :
    Back l R p e below s args New1.yN len W (fun P a => a = #[.ref x, .ref b] ∧ P.U.heap = h ∧ P.cells + 1 ≤ R.cells ∧ P.slots + A.slots.size ≤ R.slots)
      (fun P _ v B => ∃ L, Q Z x A h v B.U.heap L ∧ B.locs = P.locs ++ L ∧ B.cells = P.cells + 1 ∧ B.slots = P.slots + A.slots.size) := by
  intro m meth c P g ig mk a X hg hsize hdg hW hn hp'
  obtain ⟨rfl, rfl, r1, r2⟩ := hp'
  have al : Z.vm.Alike P.U.vm := hZ.alike.trans X.warmed.alike
  obtain ⟨D, cfV, kV, iV, fV, hD, gV, stV, knV, obV, asV, slV⟩ := id V
  obtain ⟨D', cfC, kC, iC, fC, hD', gC, stC, -, -, asC, slC⟩ := id C
  cases hD.symm.trans hD'
  obtain ⟨D2, kD, e1, e2, e3, e4, e5⟩ := id E
  cases hD.symm.trans e1
  obtain ⟨c2, k2, i1, i2, i3, -⟩ := Cond.instantiable_spec wi
  cases e2.symm.trans i1
  cases e3.symm.trans i2
  obtain ⟨kU, u1, u2⟩ := al.2.2 _ _ e3
  have hB : Blank ST x D P.U := ⟨hD, ⟨knV, fun q hq => by rw [hq] at obV; cases obV⟩, by rw [al.findClass]; exact e2, kU, u1, by rw [u2]; exact i3, by rw [u2]; exact e5 i3⟩
  have F1 : Found ST "value" "[B" fV P.U := ⟨SBG.found_only al ⟨cfV, kV, iV, gV⟩, stV⟩
  have F2 : Found ST "coder" "B" fC P.U := ⟨SBG.found_only al ⟨cfC, kC, iC, gC⟩, stC⟩
  have hA : Ch b A P.U := ⟨⟨K.1, State.isArrayOf_alike al K.2.1, K.2.2, by omega⟩, hty⟩
  have hS : StaticIs P.U ST "COMPACT_STRINGS" "Z" (.int z) := by
    obtain ⟨cfS, iS, kS, fS, st, cS, t1, t2, t3, t4, t5, t6, t7⟩ := S
    exact StaticIs.there (s := { Z with heap := P.U.heap }) ⟨cfS, iS, kS, fS, st, cS, t1, t2, t3, t4, t5, (fun q => by rw [q] at t6; cases t6), t7⟩ al rfl
  obtain ⟨v, B, X', ⟨⟨hv, E', V', q1, q2, q3, q4, q5, q6, q7, q8, q9, q10, q11⟩, hl, hc, hs⟩, st⟩ := New1.pays x D fV fC b A z (tab_of (moved hZ hw)) hfr hlo m meth c P g ig mk _ X hg hsize hdg hW hn ⟨r1, r2, rfl, hB, F1, F2, hA, hS, hz, l0, l2, hp⟩
  have al' : Z.vm.Alike B.U.vm := hZ.alike.trans X'.warmed.alike
  have hsz : E'.slots.size = D.slots.size := by
    obtain ⟨-, -, -, kB, w1, w2, w3⟩ := q1
    obtain ⟨kB', y1, y2⟩ := al'.2.2 _ _ e3
    rw [q2.2.1] at w1
    cases w1.symm.trans y1
    rw [w3, e5 i3, y2]
  refine ⟨v, B, X', ⟨_, ⟨hv, ?_, ⟨by omega, fun y cy hy hn' => q10 y cy (by simpa using hn') hy, fun y cy hy => ?_⟩, q11, ⟨E', _, q1.1, by rw [q2.2.1]; exact e2, by rw [q2.2.1]; exact e3, by rw [q2.1]; exact obV, fun _ => by rw [hsz]; exact e5 i3⟩,
    ⟨E', cfV, kV, iV, fV, q1.1, gV, stV, by rw [q2.1]; exact knV, by rw [q2.1]; exact obV, by rw [q2.2.1]; exact asV, q3⟩, ⟨E', cfC, kC, iC, fC, q1.1, gC, stC, by rw [q2.1]; exact knV, by rw [q2.1]; exact obV, by rw [q2.2.1]; exact asC, q4⟩,
    ⟨V', ⟨q5.1, State.isArrayOf_alike al'.symm q5.2.1, q5.2.2.1⟩, q6, by rw [← al'.findClass]; exact q7, q8, fun j hj => by have := q9 j hj; rwa [Nat.zero_add] at this⟩, fun O n d w F n1 n2 => ?_⟩, hl, hc, hs⟩, st⟩
  · intro y hy
    simp only [List.mem_cons, List.not_mem_nil, or_false] at hy
    rcases hy with rfl | rfl <;> rfl
  · by_cases q : y = x
    · subst q
      cases hD.symm.trans hy
      exact ⟨E', q1.1, q2.2.1, q2.1, hsz⟩
    · exact ⟨cy, q10 y cy q hy, rfl, rfl, rfl⟩
  · obtain ⟨D3, cf, k, i, f, g1, g2, g3, g4, g5, g6, g7⟩ := F
    cases hD.symm.trans g1
    simp only [RoadKit.slotOf, g2, gV, gC, Option.map_some, Option.getD_some] at n1 n2
    exact ⟨E', cf, k, i, f, q1.1, g2, g3, by rw [q2.1]; exact g4, by rw [q2.1]; exact g5, by rw [q2.2.1]; exact g6, by rw [q2.2.2 f.slot (by simp [n1, n2])]; exact g7⟩
end StrChars.Road
namespace StrChars.Road
open Jvm Sem ClassFile Op Lib Jvm.Stand Jvm.Free Jvm.Free.XT
/-- WHAT COMES BACK, the byte[] as a list of values -/
def QA (Z : State) (x : Addr) (zn : Int32) (cs : List Int32) (h : Heap) (v : Option Value) (h' : Heap) (L : List Loc) : Prop := v = none ∧ (∀ y ∈ L, y.base = x) ∧ RoadKit.Keep h h' [x] ∧ h'.size = h.size + 1 ∧ RoadKit.Exa Z h' x ST ∧ RoadKit.Fld Z h' x ST "value" "[B" (.ref h.size) ∧ RoadKit.Fld Z h' x ST "coder" "B" (.int 0) ∧
  (∃ kb, Z.vm.findClass "[B" = some kb ∧ RoadKit.Arv Z h' h.size kb .byte zn (cs.map fun c => .int (lo8 c)) (.int 0)) ∧
  ∀ (O n d : String) (w : Value), RoadKit.Fld Z h x O n d w → RoadKit.slotOf Z O n d ≠ RoadKit.slotOf Z ST "value" "[B" → RoadKit.slotOf Z O n d ≠ RoadKit.slotOf Z ST "coder" "B" → RoadKit.Fld Z h' x O n d w
/-- **new String(chars) AT A CALL, THE ARRAYS AS LISTS**: the char[] at b holds cs, not empty, no char above 255 -/
theorem backArv {p : Program} {l : Launch} {e : Env} {R : Room} {s : State} {args : Array Value} {below : List Frame} {len W : Nat} {Z : State} {a0 : Array Value} {h : Heap} (hZ : Z.Warmed39 s.vm) (hw : ∀ d ∈ words, d.before a0 Z = true) {kI : Nat} (wi : (Jvm.Cond.instantiable ST kI).before a0 Z = true)
    {x b : Addr} {k : ClassId} {zn z : Int32} {cs : List Int32} {dv v0 c0 : Value} (E : RoadKit.Exa Z h x ST) (V : RoadKit.Fld Z h x ST "value" "[B" v0) (C : RoadKit.Fld Z h x ST "coder" "B" c0) (K : RoadKit.Arv Z h b k .char zn (cs.map Value.int) dv) (S : RoadKit.Sta Z h ST "COMPACT_STRINGS" "Z" (.int z)) (hz : ¬ z = 0)
    (hlen : zn.toNatClampNeg = cs.length) (h0 : 0 < cs.length) (hbig : cs.length ≤ 536870912) (hall : ∀ c ∈ cs, ¬ 255 < c) (hfr : 4 ≤ R.frames) (hlo : W + 65 ≤ R.locals) :
    Back l R p e below s args New1.yN len W (fun P a => a = #[.ref x, .ref b] ∧ P.U.heap = h ∧ P.cells + 1 ≤ R.cells ∧ P.slots + cs.length ≤ R.slots)
      (fun P _ v B => ∃ L, QA Z x zn cs h v B.U.heap L ∧ B.locs = P.locs ++ L ∧ B.cells = P.cells + 1 ∧ B.slots = P.slots + cs.length) := by
  obtain ⟨A, K1, K2, K3, K4, K5, K6⟩ := K
  have e : A.slots.size = cs.length := K3.trans hlen
  have hat : ∀ (i : Nat) (hi : i < cs.length), A.slots[i]? = some (.int cs[i]) := fun i hi => by rw [K5 i (by omega)]; simp [List.getD_eq_getElem?_getD, hi]
  have hcv : ∀ (i : Nat) (hi : i < cs.length), cv A i = cs[i] := fun i hi => by unfold cv; rw [hat i hi]
  have hty : Typed .char A := fun i v hv => by
    have hi : i < A.slots.size := (Array.getElem?_eq_some_iff.mp hv).1
    have q := K5 i hi
    rw [hv] at q
    rw [Option.some.inj q]
    exact K6 i hi
  refine Back.mono (back hZ hw wi E V C K1 hty S hz (by omega) (by omega) (fun i hi => by rw [hcv i (by omega)]; exact hall _ (List.getElem_mem _)) hfr hlo) (fun P a hp => ⟨hp.1, hp.2.1, hp.2.2.1, by rw [e]; exact hp.2.2.2⟩) (fun P a v B hp hq => ?_)
  obtain ⟨L, ⟨q1, q2, q3, q4, q5, q6, q7, ⟨V', v1, v2, v3, v4, v5⟩, q9⟩, hl, hc, hs⟩ := hq
  refine ⟨L, ⟨q1, q2, q3, q4, q5, q6, q7, ⟨V'.cls, v3, V', v1, rfl, by rw [v4, e, hlen], K4, fun i hi => ?_, fun i hi => ?_⟩, q9⟩, hl, hc, by rw [hs, e]⟩
  · have hi' : i < cs.length := by omega
    rw [v5 i (by omega), hcv i hi']; simp [List.getD_eq_getElem?_getD, hi']
  · have hi' : i < cs.length := by omega
    simp only [List.getD_eq_getElem?_getD, List.getElem?_map, List.getElem?_eq_getElem hi', Option.map_some, Option.getD_some]
    exact fits_lo8 _
end StrChars.Road
namespace StrChars.Road
open Jvm Sem ClassFile Op Lib Jvm.Stand Jvm.Free Jvm.Free.XT
/-- WHAT COMES BACK, in the writer's own shape -/
def QV (Z : State) (x : Addr) (N : Int32) (bs : List Int32) (h : Heap) (n0 : Nat) (v : Option Value) (h' : Heap) (L : List Loc) : Prop := v = none ∧ RoadKit.Fr n0 L ∧ RoadKit.Keep h h' [x] ∧ RoadKit.Exa Z h' x ST ∧ RoadKit.Fld Z h' x ST "coder" "B" (.int 0) ∧
  ∃ (t : Addr) (kb : ClassId), n0 ≤ t ∧ h.size ≤ t ∧ ¬ t = x ∧ RoadKit.Fld Z h' x ST "value" "[B" (.ref t) ∧ RoadKit.Arv Z h' t kb .byte N (bs.map Value.int) (.int 0)
/-- **new String(chars) AT A CALL, FOR THE WRITER**: a char[] of n known ints, each 0 to 255 -/
theorem backV {p : Program} {l : Launch} {e : Env} {R : Room} {s : State} {args : Array Value} {below : List Frame} {len W : Nat} {Z : State} {a0 : Array Value} {h : Heap} (hZ : Z.Warmed39 s.vm) (hw : ∀ d ∈ words, d.before a0 Z = true) {kI : Nat} (wi : (Jvm.Cond.instantiable ST kI).before a0 Z = true)
    {x b : Addr} {kC : ClassId} {cs bs : List Int32} {d v0 c0 : Value} {z N : Int32} {n n0 : Nat} (hx0 : n0 ≤ x) (hh0 : n0 ≤ h.size) (E : RoadKit.Exa Z h x ST) (V : RoadKit.Fld Z h x ST "value" "[B" v0) (C : RoadKit.Fld Z h x ST "coder" "B" c0) (K : RoadKit.Arv Z h b kC .char N (cs.map Value.int) d) (S : RoadKit.Sta Z h ST "COMPACT_STRINGS" "Z" (.int z)) (hz : ¬ z = 0)
    (hn : cs.length = n) (hN : N = Int32.ofNat n) (l0 : 0 < n) (l2 : n ≤ 4000) (hp : ∀ c ∈ cs, ¬ c < 0 ∧ ¬ (255 : Int32) < c) (hb : bs = cs.map (fun c => c.toInt8.toInt32)) (hfr : 4 ≤ R.frames) (hlo : W + 65 ≤ R.locals) :
    Back l R p e below s args (⟨"java/lang/String", "<init>", "([C)V"⟩ : MethodName) len W (fun P a => a = #[.ref x, .ref b] ∧ P.U.heap = h ∧ P.cells + 1 ≤ R.cells ∧ P.slots + n ≤ R.slots)
      (fun P _ v B => ∃ L, QV Z x N bs h n0 v B.U.heap L ∧ B.locs = P.locs ++ L ∧ B.cells = P.cells + 1 ∧ B.slots = P.slots + n) := by
  subst hn hN hb
  refine Back.mono (backArv hZ hw wi E V C K S hz (n32 (by omega)) l0 (by omega) (fun c hc => (hp c hc).2) hfr hlo) (fun P a hp => hp) (fun P a v B hp hq => ?_)
  obtain ⟨L, ⟨q1, q2, q3, q4, q5, q6, q7, ⟨kb, v1, v2⟩, q9⟩, hl, hc, hs⟩ := hq
  exact ⟨L, ⟨q1, fun y hy => by rw [q2 y hy]; exact hx0, q3, q5, q7, h.size, kb, hh0, Nat.le_refl _, Nat.ne_of_gt E.lt, q6, by rw [List.map_map]; exact v2⟩, hl, hc, hs⟩
end StrChars.Road
namespace StrChars
open Jvm Sem ClassFile Op Lib Jvm.Stand Jvm.Free.XT Jvm.Free.ALB Jvm.Free.JM Jvm.Free
open Jvm.Lib.Cold (StaticIs)
def hi8 (x : Int32) : Int32 := lo8 (x >>> ((8 : Int32) &&& 31))
/-- what StringUTF16.getChar makes of two bytes -/
def pairCh (u v : Int32) : Int32 := (((u &&& 255) <<< ((0 : Int32) &&& 31)) ||| ((v &&& 255) <<< ((8 : Int32) &&& 31))).toUInt32.toUInt16.toUInt32.toInt32
theorem lo8_and (x : Int32) : (lo8 x &&& 255).toBitVec.toNat = x.toBitVec.toNat % 256 := by
  have h : (lo8 x).toBitVec = (x.toBitVec.signExtend 8).signExtend 32 := by rw [lo8, Int8.toBitVec_toInt32, Int32.toBitVec_toInt8]
  rw [Int32.toBitVec_and, BitVec.toNat_and, h]
  have e : ((x.toBitVec.signExtend 8).signExtend 32).toNat % 256 = x.toBitVec.toNat % 256 := by
    rw [BitVec.toNat_signExtend]
    have hlt := x.toBitVec.isLt
    simp only [BitVec.toNat_setWidth, BitVec.toNat_signExtend]
    split <;> split <;> omega
  rw [← e]
  exact Nat.and_two_pow_sub_one_eq_mod _ 8
theorem pair_says {c : Int32} (h0 : ¬ c < 0) (h1 : ¬ 65535 < c) : pairCh (lo8 c) (hi8 c) = c := by
  rw [Int32.lt_iff_toInt_lt] at h0 h1
  have e0 : (0 : Int32).toInt = 0 := rfl
  have e1 : (65535 : Int32).toInt = 65535 := rfl
  have hc : c.toInt = c.toBitVec.toNat := by
    have := c.toBitVec.isLt
    have e : c.toInt = c.toBitVec.toInt := rfl
    rw [e] at h0 h1
    rw [e]
    rw [BitVec.toInt_eq_toNat_cond] at h0 h1 ⊢
    split at h0 <;> split <;> omega
  have hn : c.toBitVec.toNat < 65536 := by omega
  have a1 := lo8_and c
  have a2 : (hi8 c &&& 255).toBitVec.toNat = c.toBitVec.toNat / 256 := by
    rw [hi8, lo8_and]
    have e : ((8 : Int32) &&& 31) = 8 := by decide
    rw [e, Int32.toBitVec_shiftRight]
    have e2 : ((8 : Int32).toBitVec.smod 32) = 8#32 := by decide
    rw [e2, BitVec.sshiftRight_eq', BitVec.toNat_sshiftRight_of_msb_false (by rw [BitVec.msb_eq_false_iff_two_mul_lt]; omega)]
    show c.toBitVec.toNat >>> 8 % 256 = _
    rw [Nat.shiftRight_eq_div_pow]
    omega
  unfold pairCh
  apply Int32.toBitVec_inj.mp
  apply BitVec.eq_of_toNat_eq
  have f0 : ((0 : Int32) &&& 31) = 0 := by decide
  have f8 : ((8 : Int32) &&& 31) = 8 := by decide
  rw [f0, f8]
  have g : (((lo8 c &&& 255) <<< (0 : Int32)) ||| ((hi8 c &&& 255) <<< (8 : Int32))).toBitVec.toNat = c.toBitVec.toNat := by
    rw [Int32.toBitVec_or, Int32.toBitVec_shiftLeft, Int32.toBitVec_shiftLeft]
    have s0 : ((0 : Int32).toBitVec.smod 32) = 0#32 := by decide
    have s8 : ((8 : Int32).toBitVec.smod 32) = 8#32 := by decide
    rw [s0, s8, BitVec.toNat_or]
    simp only [BitVec.shiftLeft_eq', BitVec.toNat_shiftLeft, a1, a2]
    show (c.toBitVec.toNat % 256) <<< 0 % 2 ^ 32 ||| (c.toBitVec.toNat / 256) <<< 8 % 2 ^ 32 = _
    rw [Nat.shiftLeft_zero, Nat.mod_eq_of_lt (show c.toBitVec.toNat % 256 < 2 ^ 32 by omega), Nat.mod_eq_of_lt (show (c.toBitVec.toNat / 256) <<< 8 < 2 ^ 32 by rw [Nat.shiftLeft_eq]; omega), Nat.or_comm, ← Nat.shiftLeft_add_eq_or_of_lt (by omega), Nat.shiftLeft_eq]
    omega
  show BitVec.toNat (((((lo8 c &&& 255) <<< (0 : Int32)) ||| ((hi8 c &&& 255) <<< (8 : Int32))).toBitVec.setWidth 16).setWidth 32) = _
  rw [BitVec.toNat_setWidth, BitVec.toNat_setWidth, g]
  omega
end StrChars
namespace StrChars
open Jvm Sem ClassFile Op Lib Jvm.Stand Jvm.Free.XT Jvm.Free.ALB Jvm.Free.JM Jvm.Free
open Jvm.Lib.Cold (StaticIs)
/-- the array's cell V codes the n chars f 0 .. f (n - 1) by the coder cd, as the JDK does: coder 1 just where some char is above 255 -/
def Cod (cd : Int32) (n : Nat) (f : Nat → Int32) (V : Cell) : Prop := (cd = 0 ∧ V.slots.size = n ∧ ∀ j, j < n → V.slots[j]? = some (.int (lo8 (f j))) ∧ ¬ 255 < f j) ∨ (cd = 1 ∧ V.slots.size = 2 * n ∧ (∀ j, j < n → V.slots[2 * j]? = some (.int (lo8 (f j))) ∧ V.slots[2 * j + 1]? = some (.int (hi8 (f j)))) ∧ ∃ j, j < n ∧ 255 < f j)
/-- **x is a String of the n chars f 0 .. f (n - 1)**, Latin-1 or UTF-16; its array at t has the cell V -/
def Txt (x t : Addr) (V : Cell) (cd : Int32) (n : Nat) (f : Nat → Int32) (U : State) : Prop := Exact "java/lang/String" x U ∧ Has x "java/lang/String" "value" "[B" (.ref t) U ∧ Has x "java/lang/String" "coder" "B" (.int cd) U ∧ XT.Arr .byte t V U ∧ Cod cd n f V ∧ ∀ j, j < n → ¬ f j < 0 ∧ ¬ 65535 < f j
theorem Txt.mv {x t : Addr} {V : Cell} {cd : Int32} {n : Nat} {f : Nat → Int32} {U U' : State} (h : Txt x t V cd n f U) (hal : U.vm.Alike U'.vm) (hh : U'.heap = U.heap) : Txt x t V cd n f U' := ⟨h.1.mv hal hh, h.2.1.mv hal hh, h.2.2.1.mv hal hh, h.2.2.2.1.mv hal hh, h.2.2.2.2⟩
end StrChars
namespace StrChars.Road
open Jvm Sem ClassFile Op Lib Jvm.Stand Jvm.Free Jvm.Free.XT
open Jvm.Lib.Cold (StaticIs)
theorem consq {a : Array Value} {s : State} {c : Jvm.Cond} {L : List Jvm.Cond} (h0 : c.before a s = true) (h : ∀ w ∈ L, w.before a s = true) : ∀ w ∈ c :: L, w.before a s = true := fun w hw => (List.mem_cons.mp hw).elim (fun e => e ▸ h0) (h w)
/-- the bytes of the chars cs, low before high -/
def wideBytes : List Int32 → List Value
  | [] => []
  | c :: cs => .int (lo8 c) :: .int (hi8 c) :: wideBytes cs
theorem wide_lo (d : Value) : ∀ (cs : List Int32) (j : Nat), j < cs.length → (wideBytes cs).getD (2 * j) d = .int (lo8 (cs.getD j 0))
  | [], j, h => absurd h (Nat.not_lt_zero j)
  | c :: cs, 0, _ => rfl
  | c :: cs, j + 1, h => by
    have q := wide_lo d cs j (by simpa using h)
    rw [show 2 * (j + 1) = 2 * j + 1 + 1 from by omega]
    simpa [wideBytes] using q
theorem wide_hi (d : Value) : ∀ (cs : List Int32) (j : Nat), j < cs.length → (wideBytes cs).getD (2 * j + 1) d = .int (hi8 (cs.getD j 0))
  | [], j, h => absurd h (Nat.not_lt_zero j)
  | c :: cs, 0, _ => rfl
  | c :: cs, j + 1, h => by
    have q := wide_hi d cs j (by simpa using h)
    rw [show 2 * (j + 1) + 1 = 2 * j + 1 + 1 + 1 from by omega]
    simpa [wideBytes] using q
theorem low_at (d : Value) (cs : List Int32) (j : Nat) (h : j < cs.length) : (cs.map fun c => Value.int (lo8 c)).getD j d = .int (lo8 (cs.getD j 0)) := by
  simp [List.getD_eq_getElem?_getD, h]
/-- an array of N2 bytes vs codes the chars cs by the coder cd -/
def CodA (cs : List Int32) (cd N2 : Int32) (vs : List Value) : Prop := (cd = 0 ∧ N2 = Int32.ofNat cs.length ∧ vs = (cs.map fun c => Value.int (lo8 c)) ∧ ∀ c ∈ cs, ¬ 255 < c) ∨ (cd = 1 ∧ N2 = Int32.ofNat (2 * cs.length) ∧ vs = wideBytes cs ∧ ∃ c ∈ cs, 255 < c)
theorem CodA.cod {cs : List Int32} {cd N2 : Int32} {vs : List Value} {V : Cell} (h : CodA cs cd N2 vs) (hn : 2 * cs.length < 2 ^ 31) (hs : V.slots.size = N2.toNatClampNeg) (hv : RoadKit.Has V vs (.int 0)) : Cod cd cs.length (fun j => cs.getD j 0) V := by
  rcases h with ⟨rfl, rfl, rfl, h⟩ | ⟨rfl, rfl, rfl, c, hc, hw⟩
  · rw [n32 (by omega)] at hs
    exact Or.inl ⟨rfl, hs, fun j hj => ⟨by rw [hv j (by omega), low_at _ _ _ hj], by
      have e : cs.getD j 0 = cs[j] := by simp [List.getD_eq_getElem?_getD, hj]
      show ¬ 255 < cs.getD j 0
      rw [e]; exact h _ (List.getElem_mem _)⟩⟩
  · rw [n32 (by omega)] at hs
    obtain ⟨j, hj, rfl⟩ := List.getElem_of_mem hc
    exact Or.inr ⟨rfl, hs, fun j hj => ⟨by rw [hv _ (by omega), wide_lo _ _ _ hj], by rw [hv _ (by omega), wide_hi _ _ _ hj]⟩, j, hj, by
      have e : cs.getD j 0 = cs[j] := by simp [List.getD_eq_getElem?_getD, hj]
      show 255 < cs.getD j 0
      rw [e]; exact hw⟩
/-- an object of exactly java/lang/String, its two fields found: as the laws ask it -/
theorem strObj {Z U : State} {a0 : Array Value} {kI : Nat} (wi : (Jvm.Cond.instantiable ST kI).before a0 Z = true) (al : Z.vm.Alike U.vm) {x : Addr} {v0 c0 : Value} (E : RoadKit.Exa Z U.heap x ST) (V : RoadKit.Fld Z U.heap x ST "value" "[B" v0) (C : RoadKit.Fld Z U.heap x ST "coder" "B" c0) :
    ∃ (D : Cell) (fV fC : Field), Blank ST x D U ∧ Found ST "value" "[B" fV U ∧ Found ST "coder" "B" fC U ∧ D.slots[fV.slot]? = some v0 ∧ D.slots[fC.slot]? = some c0 ∧ RoadKit.slotOf Z ST "value" "[B" = fV.slot ∧ RoadKit.slotOf Z ST "coder" "B" = fC.slot := by
  obtain ⟨D, cfV, kV, iV, fV, hD, gV, stV, knV, obV, asV, slV⟩ := V
  obtain ⟨D', cfC, kC, iC, fC, hD', gC, stC, -, -, asC, slC⟩ := C
  cases hD.symm.trans hD'
  obtain ⟨D2, kD, e1, e2, e3, e4, e5⟩ := E
  cases hD.symm.trans e1
  obtain ⟨c2, k2, i1, i2, i3, -⟩ := Cond.instantiable_spec wi
  cases e2.symm.trans i1
  cases e3.symm.trans i2
  obtain ⟨kU, u1, u2⟩ := al.2.2 _ _ e3
  exact ⟨D, fV, fC, ⟨hD, ⟨knV, fun q hq => by rw [hq] at obV; cases obV⟩, by rw [al.findClass]; exact e2, kU, u1, by rw [u2]; exact i3, by rw [u2]; exact e5 i3⟩, ⟨SBG.found_only al ⟨cfV, kV, iV, gV⟩, stV⟩, ⟨SBG.found_only al ⟨cfC, kC, iC, gC⟩, stC⟩, slV, slC, by simp [RoadKit.slotOf, gV], by simp [RoadKit.slotOf, gC]⟩
theorem sta_is {Z U : State} (al : Z.vm.Alike U.vm) {C n d : String} {v : Value} (S : RoadKit.Sta Z U.heap C n d v) : StaticIs U C n d v := by
  obtain ⟨cfS, iS, kS, fS, st, cS, t1, t2, t3, t4, t5, t6, t7⟩ := S
  exact StaticIs.there (s := { Z with heap := U.heap }) ⟨cfS, iS, kS, fS, st, cS, t1, t2, t3, t4, t5, (fun q => by rw [q] at t6; cases t6), t7⟩ al rfl
end StrChars.Road
namespace StrChars
open Jvm Sem ClassFile Op Lib Jvm.Stand Jvm.Free.XT Jvm.Free.ALB Jvm.Free.JM Jvm.Free
open Jvm.Lib.Cold (StaticIs)
/-- what place i of a byte[]'s cell holds -/
def yv (A : Cell) (i : Nat) : Int32 := match A.slots[i]? with | some (.int x) => x | _ => 0
theorem yv_get {a : Addr} {A : Cell} {U : State} (h : XT.Arr .byte a A U) (ht : Typed .byte A) {i : Nat} (hi : i < A.slots.size) : A.slots[i]? = some (.int (yv A i)) := by
  have e := Array.getElem?_eq_getElem hi
  have f := ht i _ e
  unfold yv; rw [e]
  generalize A.slots[i] = v at f
  cases v <;> simp [fits] at f ⊢
/-- the two arrays are equal, place for place -/
def EqC (A B : Cell) : Prop := A.slots.size = B.slots.size ∧ ∀ i, i < A.slots.size → yv A i = yv B i
/-- a boolean that says whether p -/
def Says01 (q : Prop) (r : Option Value) (s u : State) : Prop := ∃ v : Int32, r = some (.int v) ∧ u.heap = s.heap ∧ ((v = 1 ∧ q) ∨ (v = 0 ∧ ¬ q))
theorem Says01.mv {q : Prop} : ∀ r (U U' V V' : State), U'.heap = U.heap → V.vm.Alike V'.vm → V'.heap = V.heap → Says01 q r U V → Says01 q r U' V' :=
  fun r U U' V V' h1 _ h2 ⟨v, a, b, c⟩ => ⟨v, a, by rw [h1, h2]; exact b, c⟩
namespace LEq
def yN : MethodName := ⟨"java/lang/StringLatin1", "equals", "([B[B)Z"⟩
abbrev yB : ByteArray := jdk_43_method_13_code
theorem d0 : decode yB 0 = .ok (.aload_n 0, 1) := by decide +kernel
theorem d1 : decode yB 1 = .ok (.arraylength, 1) := by decide +kernel
theorem d2 : decode yB 2 = .ok (.aload_n 1, 1) := by decide +kernel
theorem d3 : decode yB 3 = .ok (.arraylength, 1) := by decide +kernel
theorem d4 : decode yB 4 = .ok (.if_icmp (.ne) 30, 3) := by decide +kernel
theorem d7 : decode yB 7 = .ok (.iconst 0, 1) := by decide +kernel
theorem d8 : decode yB 8 = .ok (.istore_n 2, 1) := by decide +kernel
theorem d9 : decode yB 9 = .ok (.iload_n 2, 1) := by decide +kernel
theorem d10 : decode yB 10 = .ok (.aload_n 0, 1) := by decide +kernel
theorem d11 : decode yB 11 = .ok (.arraylength, 1) := by decide +kernel
theorem d12 : decode yB 12 = .ok (.if_icmp (.ge) 20, 3) := by decide +kernel
theorem d15 : decode yB 15 = .ok (.aload_n 0, 1) := by decide +kernel
theorem d16 : decode yB 16 = .ok (.iload_n 2, 1) := by decide +kernel
theorem d17 : decode yB 17 = .ok (.baload, 1) := by decide +kernel
theorem d18 : decode yB 18 = .ok (.aload_n 1, 1) := by decide +kernel
theorem d19 : decode yB 19 = .ok (.iload_n 2, 1) := by decide +kernel
theorem d20 : decode yB 20 = .ok (.baload, 1) := by decide +kernel
theorem d21 : decode yB 21 = .ok (.if_icmp (.eq) 5, 3) := by decide +kernel
theorem d24 : decode yB 24 = .ok (.iconst 0, 1) := by decide +kernel
theorem d25 : decode yB 25 = .ok (.ireturn, 1) := by decide +kernel
theorem d26 : decode yB 26 = .ok (.iinc 2 1, 3) := by decide +kernel
theorem d29 : decode yB 29 = .ok (.goto (-20), 3) := by decide +kernel
theorem d32 : decode yB 32 = .ok (.iconst 1, 1) := by decide +kernel
theorem d33 : decode yB 33 = .ok (.ireturn, 1) := by decide +kernel
theorem d34 : decode yB 34 = .ok (.iconst 0, 1) := by decide +kernel
theorem d35 : decode yB 35 = .ok (.ireturn, 1) := by decide +kernel
def site : List Cond := []
def tab : Cond := tabOf yN yB 3 (some .boolean) site
def P (a : Addr) (A : Cell) (b : Addr) (B : Cell) (args : Array Value) (s : State) : Prop := args = #[.ref a, .ref b] ∧ XT.Arr .byte a A s ∧ Typed .byte A ∧ XT.Arr .byte b B s ∧ Typed .byte B
/-- whether two byte[] are equal, place for place -/
theorem law (l : Launch) (a : Addr) (A : Cell) (b : Addr) (B : Cell) : Law l yN 2 2 0 0 yB 3 (some .boolean) site (P a A b B) (Says01 (EqC A B)) [] 0 0 := by
  refine Law.of_walk (plainFor_of_name (by decide +kernel)) (by decide +kernel) (by decide +kernel) (by decide) (fun _ _ h => by rw [h.1]; rfl) (fun _ U U' hal hh h => ⟨h.1, h.2.1.mv hal hh, h.2.2.1, h.2.2.2.1.mv hal hh, h.2.2.2.2⟩) (fun r U U' V V' h1 hal h2 h => Says01.mv r U U' V V' h1 hal h2 h) ?_
  intro p e s m args below meth c s₁ X0 hexec hbytes hml hret hlk hnm hown hh0 W hP
  obtain ⟨rfl, hA, tA, hB, tB⟩ := hP
  have a31 := hA.2.2.2
  have b31 := hB.2.2.2
  have hA0 := hA.mv X0.warmed.alike hh0
  have hB0 := hB.mv X0.warmed.alike hh0
  have c1 : Steps p.tables e below (s₁.setTop (entryFrame m #[.ref a, .ref b] 3)) (s₁.setTop (mkF m 0 #[.val (.ref a), .val (.ref b), .unset] [])) := entry rfl
  have c2 : Steps p.tables e below (s₁.setTop (entryFrame m #[.ref a, .ref b] 3)) (s₁.setTop (mkF m 4 #[.val (.ref a), .val (.ref b), .unset] [.int (Int32.ofNat B.slots.size), .int (Int32.ofNat A.slots.size)])) := c1.trans (by
    refine XS.aloadN X0.here hexec rfl (hb hbytes d0) rfl rfl ?_
    refine X0.alen hexec hA0 rfl rfl (hb hbytes d1) ?_
    refine XS.aloadN X0.here hexec rfl (hb hbytes d2) rfl rfl ?_
    refine X0.alen hexec hB0 rfl rfl (hb hbytes d3) ?_
    exact Steps.refl _)
  by_cases hs : A.slots.size = B.slots.size
  · have c3 : Steps p.tables e below (s₁.setTop (entryFrame m #[.ref a, .ref b] 3)) (s₁.setTop (mkF m 9 #[.val (.ref a), .val (.ref b), .val (.int 0)] [])) := c2.trans (by
      refine XS.icmpNo X0.here hexec rfl (hb hbytes d4) rfl (ii_ne_f (by rw [hs])) ?_
      refine iconstV X0.here hexec rfl 0 (hb hbytes d7) (by decide) ?_
      refine XS.istoreN X0.here hexec rfl (hb hbytes d8) rfl rfl ?_
      exact Steps.refl _)
    have loop : ∀ (r i : Nat), i + r = A.slots.size → (∀ j, j < i → yv A j = yv B j) → Steps p.tables e below (s₁.setTop (entryFrame m #[.ref a, .ref b] 3)) (s₁.setTop (mkF m 9 #[.val (.ref a), .val (.ref b), .val (.int (Int32.ofNat i))] [])) → ∃ (pc : Nat) (Ls : Array Slot) (v : Int32), (pc = 25 ∨ pc = 33) ∧ ((v = 1 ∧ EqC A B) ∨ (v = 0 ∧ ¬ EqC A B)) ∧ Steps p.tables e below (s₁.setTop (entryFrame m #[.ref a, .ref b] 3)) (s₁.setTop (mkF m pc Ls [.int v])) := by
      intro r
      induction r with
      | zero =>
        intro i hi he cl
        exact ⟨33, _, 1, Or.inr rfl, Or.inl ⟨rfl, hs, fun j hj => he j (by omega)⟩, cl.trans (by
          refine XS.iloadN X0.here hexec rfl (hb hbytes d9) rfl ?_
          refine XS.aloadN X0.here hexec rfl (hb hbytes d10) rfl rfl ?_
          refine X0.alen hexec hA0 rfl rfl (hb hbytes d11) ?_
          refine XS.icmpYes X0.here hexec rfl (pc0 := 12) rfl (hb hbytes d12) rfl (ii_ge_t (nlt32 (by omega) (by omega))) (by decide) rfl ?_
          refine iconstV X0.here hexec rfl 1 (hb hbytes d32) (by decide) ?_
          exact Steps.refl _)⟩
      | succ r ih =>
        intro i hi he cl
        have c4 : Steps p.tables e below (s₁.setTop (entryFrame m #[.ref a, .ref b] 3)) (s₁.setTop (mkF m 21 #[.val (.ref a), .val (.ref b), .val (.int (Int32.ofNat i))] [.int (yv B i), .int (yv A i)])) := cl.trans (by
          refine XS.iloadN X0.here hexec rfl (hb hbytes d9) rfl ?_
          refine XS.aloadN X0.here hexec rfl (hb hbytes d10) rfl rfl ?_
          refine X0.alen hexec hA0 rfl rfl (hb hbytes d11) ?_
          refine XS.icmpNo X0.here hexec rfl (hb hbytes d12) rfl (ii_ge_f (lt32 (by omega) (by omega))) ?_
          refine XS.aloadN X0.here hexec rfl (hb hbytes d15) rfl rfl ?_
          refine XS.iloadN X0.here hexec rfl (hb hbytes d16) rfl ?_
          refine X0.aget hexec hA0 rfl (yv_get hA tA (i := i) (by omega)) rfl rfl (hb hbytes d17) ?_
          refine XS.aloadN X0.here hexec rfl (hb hbytes d18) rfl rfl ?_
          refine XS.iloadN X0.here hexec rfl (hb hbytes d19) rfl ?_
          refine X0.aget hexec hB0 rfl (yv_get hB tB (i := i) (by omega)) rfl rfl (hb hbytes d20) ?_
          exact Steps.refl _)
        by_cases hv : yv A i = yv B i
        · have c5 : Steps p.tables e below (s₁.setTop (entryFrame m #[.ref a, .ref b] 3)) (s₁.setTop (mkF m 9 #[.val (.ref a), .val (.ref b), .val (.int (Int32.ofNat i + 1))] [])) := c4.trans (by
            refine XS.icmpYes X0.here hexec rfl (pc0 := 21) rfl (hb hbytes d21) rfl (ii_eq_t hv) (by decide) rfl ?_
            refine iincV X0.here hexec rfl 1 (hb hbytes d26) (by decide) rfl rfl ?_
            refine XS.goto X0.here hexec rfl (pc0 := 29) rfl (hb hbytes d29) (by decide) rfl ?_
            exact Steps.refl _)
          rw [succ32] at c5
          exact ih (i + 1) (by omega) (fun j hj => by
            by_cases e : j = i
            · rw [e]; exact hv
            · exact he j (by omega)) c5
        · exact ⟨25, _, 0, Or.inl rfl, Or.inr ⟨rfl, fun q => hv (q.2 i (by omega))⟩, c4.trans (by
            refine XS.icmpNo X0.here hexec rfl (hb hbytes d21) rfl (ii_eq_f hv) ?_
            refine iconstV X0.here hexec rfl 0 (hb hbytes d24) (by decide) ?_
            exact Steps.refl _)⟩
    obtain ⟨pc, Ls, v, hpc, hv, cz⟩ := loop A.slots.size 0 (by omega) (fun j hj => absurd hj (Nat.not_lt_zero j)) c3
    have nv : narrow .boolean (.int v) = .int v := by rcases hv with ⟨rfl, -⟩ | ⟨rfl, -⟩ <;> rfl
    rcases hpc with rfl | rfl
    · exact ⟨s₁, some (.int v), _, _, _, X0, rfl, rfl, rfl, (fun h => by cases h), ⟨v, rfl, hh0, hv⟩, fun fs hl => cz.trans (X0.ireturnOut hexec hret nv (Or.inr (Or.inl rfl)) (hb hbytes d25) hl)⟩
    · exact ⟨s₁, some (.int v), _, _, _, X0, rfl, rfl, rfl, (fun h => by cases h), ⟨v, rfl, hh0, hv⟩, fun fs hl => cz.trans (X0.ireturnOut hexec hret nv (Or.inr (Or.inl rfl)) (hb hbytes d33) hl)⟩
  · have c3 : Steps p.tables e below (s₁.setTop (entryFrame m #[.ref a, .ref b] 3)) (s₁.setTop (mkF m 35 #[.val (.ref a), .val (.ref b), .unset] [.int 0])) := c2.trans (by
      refine XS.icmpYes X0.here hexec rfl (pc0 := 4) rfl (hb hbytes d4) rfl (ii_ne_t (ne32 a31 b31 hs)) (by decide) rfl ?_
      refine iconstV X0.here hexec rfl 0 (hb hbytes d34) (by decide) ?_
      exact Steps.refl _)
    exact ⟨s₁, some (.int 0), _, _, _, X0, rfl, rfl, rfl, (fun h => by cases h), ⟨0, rfl, hh0, Or.inr ⟨rfl, fun q => hs q.1⟩⟩, fun fs hl => c3.trans (X0.ireturnOut hexec hret rfl (Or.inr (Or.inl rfl)) (hb hbytes d35) hl)⟩
end LEq
theorem Cod.ty {cd : Int32} {n : Nat} {f : Nat → Int32} {V : Cell} (h : Cod cd n f V) : Typed .byte V := fun i v hv => by
  have hi : i < V.slots.size := (Array.getElem?_eq_some_iff.mp hv).1
  rcases h with ⟨-, k1, k2⟩ | ⟨-, k1, k2, -⟩
  · rw [(k2 i (by omega)).1] at hv; cases hv; exact fits_lo8 _
  · rcases Nat.mod_two_eq_zero_or_one i with e | e
    · obtain ⟨j, rfl⟩ : ∃ j, i = 2 * j := ⟨i / 2, by omega⟩
      rw [(k2 j (by omega)).1] at hv; cases hv; exact fits_lo8 _
    · obtain ⟨j, rfl⟩ : ∃ j, i = 2 * j + 1 := ⟨i / 2, by omega⟩
      rw [(k2 j (by omega)).2] at hv; cases hv; exact fits_lo8 _
/-- the same text -/
def SameT (n : Nat) (f : Nat → Int32) (k : Nat) (g : Nat → Int32) : Prop := n = k ∧ ∀ j, j < n → f j = g j
theorem lo8_inj {x y : Int32} (h0 : ¬ x < 0) (h1 : ¬ 255 < x) (k0 : ¬ y < 0) (k1 : ¬ 255 < y) (h : lo8 x = lo8 y) : x = y := by
  rw [← lo8_mask h0 h1, ← lo8_mask k0 k1, h]
/-- arrays coded by one coder are equal just where the texts are -/
theorem Cod.eqv {cd : Int32} {n k : Nat} {f g : Nat → Int32} {V V' : Cell} (h : Cod cd n f V) (h' : Cod cd k g V') (hf : ∀ j, j < n → ¬ f j < 0 ∧ ¬ 65535 < f j) (hg : ∀ j, j < k → ¬ g j < 0 ∧ ¬ 65535 < g j) : EqC V V' ↔ SameT n f k g := by
  have yvv : ∀ {W : Cell} {i : Nat} {x : Int32}, W.slots[i]? = some (.int x) → yv W i = x := fun q => by unfold yv; rw [q]
  rcases h with ⟨rfl, k1, k2⟩ | ⟨rfl, k1, k2, -⟩
  · rcases h' with ⟨-, m1, m2⟩ | ⟨e, -⟩
    · constructor
      · rintro ⟨e1, e2⟩
        refine ⟨by omega, fun j hj => ?_⟩
        have q := e2 j (by omega)
        rw [yvv (k2 j hj).1, yvv (m2 j (by omega)).1] at q
        exact lo8_inj (hf j hj).1 (k2 j hj).2 (hg j (by omega)).1 (m2 j (by omega)).2 q
      · rintro ⟨rfl, e2⟩
        refine ⟨by omega, fun j hj => ?_⟩
        rw [yvv (k2 j (by omega)).1, yvv (m2 j (by omega)).1, e2 j (by omega)]
    · exact absurd e (by decide)
  · rcases h' with ⟨e, -⟩ | ⟨-, m1, m2, -⟩
    · exact absurd e (by decide)
    · constructor
      · rintro ⟨e1, e2⟩
        refine ⟨by omega, fun j hj => ?_⟩
        have q1 := e2 (2 * j) (by omega)
        have q2 := e2 (2 * j + 1) (by omega)
        rw [yvv (k2 j hj).1, yvv (m2 j (by omega)).1] at q1
        rw [yvv (k2 j hj).2, yvv (m2 j (by omega)).2] at q2
        rw [← pair_says (hf j hj).1 (hf j hj).2, ← pair_says (hg j (by omega)).1 (hg j (by omega)).2, q1, q2]
      · rintro ⟨rfl, e2⟩
        refine ⟨by omega, fun i hi => ?_⟩
        rcases Nat.mod_two_eq_zero_or_one i with e | e
        · obtain ⟨j, rfl⟩ : ∃ j, i = 2 * j := ⟨i / 2, by omega⟩
          rw [yvv (k2 j (by omega)).1, yvv (m2 j (by omega)).1, e2 j (by omega)]
        · obtain ⟨j, rfl⟩ : ∃ j, i = 2 * j + 1 := ⟨i / 2, by omega⟩
          rw [yvv (k2 j (by omega)).2, yvv (m2 j (by omega)).2, e2 j (by omega)]
/-- two codings differ: so do the texts -/
theorem Cod.dif {cd cd' : Int32} {n k : Nat} {f g : Nat → Int32} {V V' : Cell} (h : Cod cd n f V) (h' : Cod cd' k g V') (hne : ¬ cd = cd') : ¬ SameT n f k g := by
  rintro ⟨rfl, e⟩
  rcases h with ⟨rfl, -, k2⟩ | ⟨rfl, -, -, j, hj, hw⟩
  · rcases h' with ⟨rfl, -⟩ | ⟨-, -, -, j, hj, hw⟩
    · exact hne rfl
    · exact (k2 j hj).2 (by rw [e j hj]; exact hw)
  · rcases h' with ⟨-, -, m2⟩ | ⟨rfl, -⟩
    · exact (m2 j hj).2 (by rw [← e j hj]; exact hw)
    · exact hne rfl
/-- an object of exactly C is an instance of C -/
theorem cinst {p : Program} {l : Launch} {e : Env} {R : Room} {s : State} {m : MethodId} {args : Array Value} {below : List Frame} {meth : Method} {c : Code} {T : State} {locs : List Loc} {cells slots : Nat} (X : Stand p l e R s m args below meth c T locs cells slots) (hexec : p.tables.exec = Jvm.exec) {own C : String} {index : Nat} (hown : s.vm.findClass own = some m.cls) (hlink : (Cond.classLink own index C).before args s = true) {a : Addr} (hE : Exact C a T)
    {g : JFrame} (hg : g.method = m) {rest : List Value} (hstack : g.stack = .ref a :: rest) (hdg : decode c.code g.pc = .ok (.instanceof index, 3)) :
    ∃ T', Stand p l e R s m args below meth c T' locs cells slots ∧ T'.heap = T.heap ∧ ∀ target, Steps p.tables e below (T'.setTop { g with pc := g.pc + 3, stack := .int 1 :: rest }) target → Steps p.tables e below (T.setTop g) target := by
  obtain ⟨cB, h1, D, h2, h3, h4⟩ := hE
  have h1' : s.vm.findClass C = some cB := by rw [← X.warmed.alike.findClass]; exact h1
  obtain ⟨vm', X', st⟩ := X.instanceofYes hexec hown hlink h2 h4 h1' (by rw [h3]; exact Jvm.Free.SB.assignable_self _ _) hg hstack hdg
  exact ⟨_, X', rfl, st⟩
theorem cself {p : Program} {l : Launch} {e : Env} {R : Room} {s : State} {m : MethodId} {args : Array Value} {below : List Frame} {meth : Method} {c : Code} {T : State} {locs : List Loc} {cells slots : Nat} (X : Stand p l e R s m args below meth c T locs cells slots) (hexec : p.tables.exec = Jvm.exec) {own C : String} {index : Nat} (hown : s.vm.findClass own = some m.cls) (hlink : (Cond.classLink own index C).before args s = true) {a : Addr} (hE : Exact C a T)
    {g : JFrame} (hg : g.method = m) {rest : List Value} (hstack : g.stack = .ref a :: rest) (hdg : decode c.code g.pc = .ok (.checkcast index, 3)) :
    ∃ T', Stand p l e R s m args below meth c T' locs cells slots ∧ T'.heap = T.heap ∧ ∀ target, Steps p.tables e below (T'.setTop { g with pc := g.pc + 3, stack := .ref a :: rest }) target → Steps p.tables e below (T.setTop g) target := by
  obtain ⟨cB, h1, D, h2, h3, h4⟩ := hE
  have h1' : s.vm.findClass C = some cB := by rw [← X.warmed.alike.findClass]; exact h1
  obtain ⟨vm', X', st⟩ := X.checkcastYes hexec hown hlink h2 h4 h1' (by rw [h3]; exact Jvm.Free.SB.assignable_self _ _) hg hstack hdg
  exact ⟨_, X', rfl, fun t h => st t (by rw [← hstack] at h; exact h)⟩
namespace SEq
def yN : MethodName := ⟨"java/lang/String", "equals", "(Ljava/lang/Object;)Z"⟩
abbrev yB : ByteArray := jdk_42_method_66_code
theorem d0 : decode yB 0 = .ok (.aload_n 0, 1) := by decide +kernel
theorem d1 : decode yB 1 = .ok (.aload_n 1, 1) := by decide +kernel
theorem d2 : decode yB 2 = .ok (.if_acmp (.ne) 5, 3) := by decide +kernel
theorem d5 : decode yB 5 = .ok (.iconst 1, 1) := by decide +kernel
theorem d6 : decode yB 6 = .ok (.ireturn, 1) := by decide +kernel
theorem d7 : decode yB 7 = .ok (.aload_n 1, 1) := by decide +kernel
theorem d8 : decode yB 8 = .ok (.instanceof 10, 3) := by decide +kernel
theorem d11 : decode yB 11 = .ok (.ifCond (.eq) 43, 3) := by decide +kernel
theorem d14 : decode yB 14 = .ok (.aload_n 1, 1) := by decide +kernel
theorem d15 : decode yB 15 = .ok (.checkcast 10, 3) := by decide +kernel
theorem d18 : decode yB 18 = .ok (.astore_n 2, 1) := by decide +kernel
theorem d19 : decode yB 19 = .ok (.getstatic 38, 3) := by decide +kernel
theorem d22 : decode yB 22 = .ok (.ifCond (.eq) 14, 3) := by decide +kernel
theorem d25 : decode yB 25 = .ok (.aload_n 0, 1) := by decide +kernel
theorem d26 : decode yB 26 = .ok (.getfield 15, 3) := by decide +kernel
theorem d29 : decode yB 29 = .ok (.aload_n 2, 1) := by decide +kernel
theorem d30 : decode yB 30 = .ok (.getfield 15, 3) := by decide +kernel
theorem d33 : decode yB 33 = .ok (.if_icmp (.ne) 21, 3) := by decide +kernel
theorem d36 : decode yB 36 = .ok (.aload_n 0, 1) := by decide +kernel
theorem d37 : decode yB 37 = .ok (.getfield 9, 3) := by decide +kernel
theorem d40 : decode yB 40 = .ok (.aload_n 2, 1) := by decide +kernel
theorem d41 : decode yB 41 = .ok (.getfield 9, 3) := by decide +kernel
theorem d44 : decode yB 44 = .ok (.invokestatic 541, 3) := by decide +kernel
theorem d47 : decode yB 47 = .ok (.ifCond (.eq) 7, 3) := by decide +kernel
theorem d50 : decode yB 50 = .ok (.iconst 1, 1) := by decide +kernel
theorem d51 : decode yB 51 = .ok (.goto 4, 3) := by decide +kernel
theorem d54 : decode yB 54 = .ok (.iconst 0, 1) := by decide +kernel
theorem d55 : decode yB 55 = .ok (.ireturn, 1) := by decide +kernel
def site : List Cond := [.classLink "java/lang/String" 10 "java/lang/String", .fieldLink "java/lang/String" 38 "java/lang/String" "COMPACT_STRINGS" "Z", .fieldLink "java/lang/String" 15 "java/lang/String" "coder" "B", .fieldLink "java/lang/String" 9 "java/lang/String" "value" "[B", LEq.tab] ++ staticW "java/lang/String" 541 LEq.yN
def tab : Cond := tabOf yN yB 3 (some .boolean) site
def P (x t : Addr) (V : Cell) (cd : Int32) (n : Nat) (f : Nat → Int32) (y t' : Addr) (V' : Cell) (cd' : Int32) (k : Nat) (g : Nat → Int32) (z : Int32) (args : Array Value) (s : State) : Prop := args = #[.ref x, .ref y] ∧ Txt x t V cd n f s ∧ Txt y t' V' cd' k g s ∧ StaticIs s "java/lang/String" "COMPACT_STRINGS" "Z" (.int z) ∧ ¬ z = 0
/-- equals(Object) of two Strings: whether the texts are the same -/
theorem law (l : Launch) (x t : Addr) (V : Cell) (cd : Int32) (n : Nat) (f : Nat → Int32) (y t' : Addr) (V' : Cell) (cd' : Int32) (k : Nat) (g : Nat → Int32) (z : Int32) : Law l yN 2 1 1 14 yB 3 (some .boolean) site (P x t V cd n f y t' V' cd' k g z) (Says01 (SameT n f k g)) [] 0 0 := by
  refine Law.of_walk (plainFor_of_name (by decide +kernel)) (by decide +kernel) (by decide +kernel) (by decide) (fun _ _ h => by rw [h.1]; rfl) (fun _ U U' hal hh h => ⟨h.1, h.2.1.mv hal hh, h.2.2.1.mv hal hh, h.2.2.2.1.there hal hh, h.2.2.2.2⟩) (fun r U U' V V' h1 hal h2 h => Says01.mv r U U' V V' h1 hal h2 h) ?_
  intro p e s m args below meth c s₁ X0 hexec hbytes hml hret hlk hnm hown hh0 W hP
  obtain ⟨rfl, hx, hy, s1, hz⟩ := hP
  have c1 : Steps p.tables e below (s₁.setTop (entryFrame m #[.ref x, .ref y] 3)) (s₁.setTop (mkF m 2 #[.val (.ref x), .val (.ref y), .unset] [.ref y, .ref x])) := Steps.trans (entry rfl) (by
    show Steps p.tables e below (s₁.setTop (mkF m 0 #[.val (.ref x), .val (.ref y), .unset] [])) _
    refine XS.aloadN X0.here hexec rfl (hb hbytes d0) rfl rfl ?_
    refine XS.aloadN X0.here hexec rfl (hb hbytes d1) rfl rfl ?_
    exact Steps.refl _)
  by_cases hxy : x = y
  · have c2 : Steps p.tables e below (s₁.setTop (entryFrame m #[.ref x, .ref y] 3)) (s₁.setTop (mkF m 6 #[.val (.ref x), .val (.ref y), .unset] [.int 1])) := c1.trans (by
      refine acmpNo X0.here hexec rfl (hb hbytes d2) rfl rfl rfl (by simp [acmp, hxy]) ?_
      refine iconstV X0.here hexec rfl 1 (hb hbytes d5) (by decide) ?_
      exact Steps.refl _)
    subst hxy
    have ec : cd = cd' := by
      obtain ⟨D, fd, a1, a2, a3⟩ := hx.2.2.1
      obtain ⟨D', fd', b1, b2, b3⟩ := hy.2.2.1
      cases a1.symm.trans b1
      obtain ⟨q1, q2, q3, q4⟩ := a2.1
      obtain ⟨r1, r2, r3, r4⟩ := b2.1
      cases q4.symm.trans r4
      cases a3.symm.trans b3; rfl
    have et : t = t' := by
      obtain ⟨D, fd, a1, a2, a3⟩ := hx.2.1
      obtain ⟨D', fd', b1, b2, b3⟩ := hy.2.1
      cases a1.symm.trans b1
      obtain ⟨q1, q2, q3, q4⟩ := a2.1
      obtain ⟨r1, r2, r3, r4⟩ := b2.1
      cases q4.symm.trans r4
      cases a3.symm.trans b3; rfl
    subst ec et
    have ev : V = V' := by cases hx.2.2.2.1.1.symm.trans hy.2.2.2.1.1; rfl
    subst ev
    have hs : SameT n f k g := (Cod.eqv hx.2.2.2.2.1 hy.2.2.2.2.1 hx.2.2.2.2.2 hy.2.2.2.2.2).mp ⟨rfl, fun _ _ => rfl⟩
    exact ⟨s₁, some (.int 1), _, _, _, X0, rfl, rfl, rfl, (fun h => by cases h), ⟨1, rfl, hh0, Or.inl ⟨rfl, hs⟩⟩, fun fs hl => c2.trans (X0.ireturnOut hexec hret rfl (Or.inr (Or.inl rfl)) (hb hbytes d6) hl)⟩
  · have c2 : Steps p.tables e below (s₁.setTop (entryFrame m #[.ref x, .ref y] 3)) (s₁.setTop (mkF m 8 #[.val (.ref x), .val (.ref y), .unset] [.ref y])) := c1.trans (by
      refine acmpYes X0.here hexec rfl (pc0 := 2) rfl (hb hbytes d2) rfl rfl rfl (by simp [acmp, hxy]) (by decide) rfl ?_
      refine XS.aloadN X0.here hexec rfl (hb hbytes d7) rfl rfl ?_
      exact Steps.refl _)
    obtain ⟨T3, X3, q3, st3⟩ := cinst X0 hexec hown (wk W (.classLink "java/lang/String" 10 "java/lang/String")) (hy.mv X0.warmed.alike hh0).1 (g := (mkF m 8 #[.val (.ref x), .val (.ref y), .unset] [.ref y])) rfl (rest := []) rfl (hb hbytes d8)
    have hh3 := q3.trans hh0
    have c4 : Steps p.tables e below (s₁.setTop (entryFrame m #[.ref x, .ref y] 3)) (T3.setTop (mkF m 15 #[.val (.ref x), .val (.ref y), .unset] [.ref y])) := (c2.trans (st3 _ (Steps.refl _))).trans (by
      refine XS.ifNo X3.here hexec rfl (hb hbytes d11) rfl (i0_eq_f (by decide)) ?_
      refine XS.aloadN X3.here hexec rfl (hb hbytes d14) rfl rfl ?_
      exact Steps.refl _)
    obtain ⟨T5, X5, q5, st5⟩ := cself X3 hexec hown (wk W (.classLink "java/lang/String" 10 "java/lang/String")) (hy.mv X3.warmed.alike hh3).1 (g := (mkF m 15 #[.val (.ref x), .val (.ref y), .unset] [.ref y])) rfl (rest := []) rfl (hb hbytes d15)
    have hh5 := q5.trans hh3
    have c6 : Steps p.tables e below (s₁.setTop (entryFrame m #[.ref x, .ref y] 3)) (T5.setTop (mkF m 19 #[.val (.ref x), .val (.ref y), .val (.ref y)] [])) := (c4.trans (st5 _ (Steps.refl _))).trans (by
      refine XS.astoreN X5.here hexec rfl (hb hbytes d18) rfl rfl rfl ?_
      exact Steps.refl _)
    obtain ⟨T7, X7, q7, st7⟩ := X5.sget hexec hown (wk W (.fieldLink "java/lang/String" 38 "java/lang/String" "COMPACT_STRINGS" "Z")) s1 (fun _ _ h => by rw [hh5]; exact h) (g := (mkF m 19 #[.val (.ref x), .val (.ref y), .val (.ref y)] [])) rfl (hb hbytes d19)
    have hh7 := q7.trans hh5
    have c8 : Steps p.tables e below (s₁.setTop (entryFrame m #[.ref x, .ref y] 3)) (T7.setTop (mkF m 26 #[.val (.ref x), .val (.ref y), .val (.ref y)] [.ref x])) := (c6.trans (st7 _ (Steps.refl _))).trans (by
      refine XS.ifNo X7.here hexec rfl (hb hbytes d22) rfl (i0_eq_f hz) ?_
      refine XS.aloadN X7.here hexec rfl (hb hbytes d25) rfl rfl ?_
      exact Steps.refl _)
    obtain ⟨T9, X9, q9, st9⟩ := X7.hget hexec hown (wk W (.fieldLink "java/lang/String" 15 "java/lang/String" "coder" "B")) (hx.mv X7.warmed.alike hh7).2.2.1 (g := (mkF m 26 #[.val (.ref x), .val (.ref y), .val (.ref y)] [.ref x])) rfl (rest := []) rfl (hb hbytes d26)
    have hh9 := q9.trans hh7
    have c10 : Steps p.tables e below (s₁.setTop (entryFrame m #[.ref x, .ref y] 3)) (T9.setTop (mkF m 30 #[.val (.ref x), .val (.ref y), .val (.ref y)] [.ref y, .int cd])) := (c8.trans (st9 _ (Steps.refl _))).trans (by
      refine XS.aloadN X9.here hexec rfl (hb hbytes d29) rfl rfl ?_
      exact Steps.refl _)
    obtain ⟨T11, X11, q11, st11⟩ := X9.hget hexec hown (wk W (.fieldLink "java/lang/String" 15 "java/lang/String" "coder" "B")) (hy.mv X9.warmed.alike hh9).2.2.1 (g := (mkF m 30 #[.val (.ref x), .val (.ref y), .val (.ref y)] [.ref y, .int cd])) rfl (rest := [.int cd]) rfl (hb hbytes d30)
    have hh11 := q11.trans hh9
    have c12 : Steps p.tables e below (s₁.setTop (entryFrame m #[.ref x, .ref y] 3)) (T11.setTop (mkF m 33 #[.val (.ref x), .val (.ref y), .val (.ref y)] [.int cd', .int cd])) := c10.trans (st11 _ (Steps.refl _))
    by_cases hcd : cd = cd'
    · subst hcd
      have c13 : Steps p.tables e below (s₁.setTop (entryFrame m #[.ref x, .ref y] 3)) (T11.setTop (mkF m 37 #[.val (.ref x), .val (.ref y), .val (.ref y)] [.ref x])) := c12.trans (by
        refine XS.icmpNo X11.here hexec rfl (hb hbytes d33) rfl (ii_ne_f rfl) ?_
        refine XS.aloadN X11.here hexec rfl (hb hbytes d36) rfl rfl ?_
        exact Steps.refl _)
      obtain ⟨T14, X14, q14, st14⟩ := X11.hget hexec hown (wk W (.fieldLink "java/lang/String" 9 "java/lang/String" "value" "[B")) (hx.mv X11.warmed.alike hh11).2.1 (g := (mkF m 37 #[.val (.ref x), .val (.ref y), .val (.ref y)] [.ref x])) rfl (rest := []) rfl (hb hbytes d37)
      have hh14 := q14.trans hh11
      have c15 : Steps p.tables e below (s₁.setTop (entryFrame m #[.ref x, .ref y] 3)) (T14.setTop (mkF m 41 #[.val (.ref x), .val (.ref y), .val (.ref y)] [.ref y, .ref t])) := (c13.trans (st14 _ (Steps.refl _))).trans (by
        refine XS.aloadN X14.here hexec rfl (hb hbytes d40) rfl rfl ?_
        exact Steps.refl _)
      obtain ⟨T16, X16, q16, st16⟩ := X14.hget hexec hown (wk W (.fieldLink "java/lang/String" 9 "java/lang/String" "value" "[B")) (hy.mv X14.warmed.alike hh14).2.1 (g := (mkF m 41 #[.val (.ref x), .val (.ref y), .val (.ref y)] [.ref y, .ref t])) rfl (rest := [.ref t]) rfl (hb hbytes d41)
      have hh16 := q16.trans hh14
      have c17 : Steps p.tables e below (s₁.setTop (entryFrame m #[.ref x, .ref y] 3)) (T16.setTop (mkF m 44 #[.val (.ref x), .val (.ref y), .val (.ref y)] [.ref t', .ref t])) := c15.trans (st16 _ (Steps.refl _))
      obtain ⟨v18, T18, X18, E18, g18⟩ := X16.callS hexec (LEq.law l t V t' V') hown (wks W (staticW "java/lang/String" 541 LEq.yN)) (wk W LEq.tab) (W := 0) (Nat.le_of_ble_eq_true rfl) (Nat.le_of_ble_eq_true rfl) (Nat.le_refl _) (Nat.le_refl _) (g := (mkF m 44 #[.val (.ref x), .val (.ref y), .val (.ref y)] [.ref t', .ref t])) rfl (by rw [hml]; rfl) c17 (argsL := [.ref t, .ref t']) (rest := []) rfl rfl (by show 2 * 0 + 0 ≤ _; decide) (hb hbytes d44) (⟨rfl, hx.2.2.2.1.mv X16.warmed.alike hh16, hx.2.2.2.2.1.ty, hy.2.2.2.1.mv X16.warmed.alike hh16, hy.2.2.2.2.1.ty⟩)
      obtain ⟨v, rfl, q18, hv⟩ := E18
      have iff := Cod.eqv hx.2.2.2.2.1 hy.2.2.2.2.1 hx.2.2.2.2.2 hy.2.2.2.2.2
      rcases hv with ⟨rfl, he⟩ | ⟨rfl, he⟩
      · have c19 : Steps p.tables e below (s₁.setTop (entryFrame m #[.ref x, .ref y] 3)) (T18.setTop (mkF m 55 #[.val (.ref x), .val (.ref y), .val (.ref y)] [.int 1])) := Steps.trans g18 (by
          refine XS.ifNo X18.here hexec rfl (hb hbytes d47) rfl (i0_eq_f (by decide)) ?_
          refine iconstV X18.here hexec rfl 1 (hb hbytes d50) (by decide) ?_
          refine XS.goto X18.here hexec rfl (pc0 := 51) rfl (hb hbytes d51) (by decide) rfl ?_
          exact Steps.refl _)
        exact ⟨T18, some (.int 1), _, _, _, X18, rfl, rfl, rfl, (fun h => by cases h), ⟨1, rfl, q18.trans hh16, Or.inl ⟨rfl, iff.mp he⟩⟩, fun fs hl => c19.trans (X18.ireturnOut hexec hret rfl (Or.inr (Or.inl rfl)) (hb hbytes d55) hl)⟩
      · have c19 : Steps p.tables e below (s₁.setTop (entryFrame m #[.ref x, .ref y] 3)) (T18.setTop (mkF m 55 #[.val (.ref x), .val (.ref y), .val (.ref y)] [.int 0])) := Steps.trans g18 (by
          refine XS.ifYes X18.here hexec rfl (pc0 := 47) rfl (hb hbytes d47) rfl (i0_eq_t rfl) (by decide) rfl ?_
          refine iconstV X18.here hexec rfl 0 (hb hbytes d54) (by decide) ?_
          exact Steps.refl _)
        exact ⟨T18, some (.int 0), _, _, _, X18, rfl, rfl, rfl, (fun h => by cases h), ⟨0, rfl, q18.trans hh16, Or.inr ⟨rfl, fun q => he (iff.mpr q)⟩⟩, fun fs hl => c19.trans (X18.ireturnOut hexec hret rfl (Or.inr (Or.inl rfl)) (hb hbytes d55) hl)⟩
    · have c13 : Steps p.tables e below (s₁.setTop (entryFrame m #[.ref x, .ref y] 3)) (T11.setTop (mkF m 55 #[.val (.ref x), .val (.ref y), .val (.ref y)] [.int 0])) := c12.trans (by
        refine XS.icmpYes X11.here hexec rfl (pc0 := 33) rfl (hb hbytes d33) rfl (ii_ne_t hcd) (by decide) rfl ?_
        refine iconstV X11.here hexec rfl 0 (hb hbytes d54) (by decide) ?_
        exact Steps.refl _)
      exact ⟨T11, some (.int 0), _, _, _, X11, rfl, rfl, rfl, (fun h => by cases h), ⟨0, rfl, hh11, Or.inr ⟨rfl, Cod.dif hx.2.2.2.2.1 hy.2.2.2.2.1 hcd⟩⟩, fun fs hl => c13.trans (X11.ireturnOut hexec hret rfl (Or.inr (Or.inl rfl)) (hb hbytes d55) hl)⟩
theorem pays {l : Launch} {R : Room} {p : Program} {e : Env} {below : List Frame} {s : State} {sargs : Array Value} {len W : Nat} (x t : Addr) (V : Cell) (cd : Int32) (n : Nat) (f : Nat → Int32) (y t' : Addr) (V' : Cell) (cd' : Int32) (k : Nat) (g : Nat → Int32) (z : Int32) (htab : tab.before sargs s = true) (hfr : 2 ≤ R.frames) (hlo : W + 28 ≤ R.locals) :
    Back l R p e below s sargs yN len W (fun A₁ a₁ => A₁.cells + 0 ≤ R.cells ∧ A₁.slots + 0 ≤ R.slots ∧ P x t V cd n f y t' V' cd' k g z a₁ A₁.U) (fun A₁ _ v₁ B₁ => Says01 (SameT n f k g) v₁ A₁.U B₁.U ∧ B₁.locs = A₁.locs ++ [] ∧ B₁.cells = A₁.cells + 0 ∧ B₁.slots = A₁.slots + 0) :=
  (law l x t V cd n f y t' V' cd' k g z).pays htab hfr (by omega)
end SEq
end StrChars
namespace StrChars.Road
open Jvm Sem ClassFile Op Lib Jvm.Stand Jvm.Free Jvm.Free.XT
open Jvm.Lib.Cold (StaticIs)
/-- the words of String.equals(Object) -/
abbrev wordsEq : List Jvm.Cond := [.code SEq.yN SEq.yB 3 (some .boolean), .initialized ST, .classLink ST 10 ST, .fieldLink ST 38 ST "COMPACT_STRINGS" "Z", .fieldLink ST 15 ST "coder" "B", .fieldLink ST 9 ST "value" "[B", .methodLink ST 541 LEq.yN, .static LEq.yN, .code LEq.yN LEq.yB 3 (some .boolean), .initialized "java/lang/StringLatin1"]
theorem tabEq_of {a : Array Value} {s : State} (h : ∀ w ∈ wordsEq, w.before a s = true) : SEq.tab.before a s = true := by
  have hl : LEq.tab.before a s = true := unparts (wk h (.code LEq.yN LEq.yB 3 (some .boolean))) (wks h (.initialized LEq.yN.cls :: LEq.site))
  have q := consq hl h
  exact unparts (wk q (.code SEq.yN SEq.yB 3 (some .boolean))) (wks q (.initialized SEq.yN.cls :: SEq.site))
theorem movedEq {Z s : State} {a0 args : Array Value} (hZ : Z.Warmed39 s.vm) (hw : ∀ d ∈ wordsEq, d.before a0 Z = true) : ∀ d ∈ wordsEq, d.before args s = true := fun d hd => by
  have t : ∀ d ∈ wordsEq, (d.onTables && d.keepsFace) = true := by decide +kernel
  exact RoadKit.mv hZ (hw d hd) (t d hd)
/-- the road's facts of a String, as the laws ask it -/
theorem txt_of {Z U : State} {a0 : Array Value} {kI : Nat} (wi : (Jvm.Cond.instantiable ST kI).before a0 Z = true) (al : Z.vm.Alike U.vm) {x t : Addr} {kb : ClassId} {cs : List Int32} {cd N2 : Int32} {vs : List Value} (E : RoadKit.Exa Z U.heap x ST) (V : RoadKit.Fld Z U.heap x ST "value" "[B" (.ref t)) (C : RoadKit.Fld Z U.heap x ST "coder" "B" (.int cd)) (K : RoadKit.Arv Z U.heap t kb .byte N2 vs (.int 0)) (hc : CodA cs cd N2 vs) (hb : ∀ c ∈ cs, ¬ c < 0 ∧ ¬ (65535 : Int32) < c) (l2 : cs.length ≤ 4000) :
    ∃ A, Txt x t A cd cs.length (fun j => cs.getD j 0) U := by
  obtain ⟨A, K1, K2, K3, K4, K5, K6⟩ := K
  have hcod := hc.cod (by omega) K3 K5
  obtain ⟨D, fV, fC, hB, F1, F2, g1, g2, -, -⟩ := strObj wi al E V C
  exact ⟨A, ⟨_, hB.2.2.1, D, hB.1, rfl, by cases q : D.vm <;> first | rfl | exact absurd q (hB.2.1.2 _)⟩, Has.of hB F1 g1, Has.of hB F2 g2, ⟨K1.1, State.isArrayOf_alike al K1.2.1, K1.2.2, by rcases hcod with ⟨-, q, -⟩ | ⟨-, q, -⟩ <;> omega⟩, hcod, fun j hj => by
    have e : cs.getD j 0 = cs[j] := by simp [List.getD_eq_getElem?_getD, hj]
    show ¬ cs.getD j 0 < 0 ∧ ¬ 65535 < cs.getD j 0
    rw [e]; exact hb _ (List.getElem_mem _)⟩
theorem same_list (cs ds : List Int32) : SameT cs.length (fun j => cs.getD j 0) ds.length (fun j => ds.getD j 0) ↔ cs = ds := by
  constructor
  · rintro ⟨e, q⟩
    refine List.ext_getElem e fun j h1 h2 => ?_
    have := q j h1
    simpa [List.getD_eq_getElem?_getD, h1, h2] using this
  · rintro rfl
    exact ⟨rfl, fun _ _ => rfl⟩
/-- **equals(Object) OF TWO SUCH STRINGS**: 1 just where the chars are the same -/
theorem eqW {p : Program} {l : Launch} {e : Env} {R : Room} {s : State} {args : Array Value} {below : List Frame} {len W : Nat} {Z : State} {a0 : Array Value} {h : Heap} (hZ : Z.Warmed39 s.vm) (hw : ∀ d ∈ wordsEq, d.before a0 Z = true) {kI : Nat} (wi : (Jvm.Cond.instantiable ST kI).before a0 Z = true)
    {x t : Addr} {kb : ClassId} {cs : List Int32} {cd N2 : Int32} {vs : List Value} (E : RoadKit.Exa Z h x ST) (V : RoadKit.Fld Z h x ST "value" "[B" (.ref t)) (C : RoadKit.Fld Z h x ST "coder" "B" (.int cd)) (K : RoadKit.Arv Z h t kb .byte N2 vs (.int 0)) (hc : CodA cs cd N2 vs) (hb : ∀ c ∈ cs, ¬ c < 0 ∧ ¬ (65535 : Int32) < c) (l2 : cs.length ≤ 4000)
    {y t' : Addr} {kb' : ClassId} {ds : List Int32} {cd' N2' : Int32} {vs' : List Value} (E' : RoadKit.Exa Z h y ST) (V' : RoadKit.Fld Z h y ST "value" "[B" (.ref t')) (C' : RoadKit.Fld Z h y ST "coder" "B" (.int cd')) (K' : RoadKit.Arv Z h t' kb' .byte N2' vs' (.int 0)) (hc' : CodA ds cd' N2' vs') (hb' : ∀ c ∈ ds, ¬ c < 0 ∧ ¬ (65535 : Int32) < c) (l2' : ds.length ≤ 4000)
    {z : Int32} (S : RoadKit.Sta Z h ST "COMPACT_STRINGS" "Z" (.int z)) (hz : ¬ z = 0) (hfr : 2 ≤ R.frames) (hlo : W + 28 ≤ R.locals) :
    Back l R p e below s args (⟨"java/lang/String", "equals", "(Ljava/lang/Object;)Z"⟩ : MethodName) len W (fun P a => a = #[.ref x, .ref y] ∧ P.U.heap = h ∧ P.cells + 0 ≤ R.cells ∧ P.slots + 0 ≤ R.slots)
      (fun P _ v B => ∃ L, (((v = some (.int 1) ∧ cs = ds) ∨ (v = some (.int 0) ∧ ¬ cs = ds)) ∧ L = [] ∧ B.U.heap = h) ∧ B.locs = P.locs ++ L ∧ B.cells = P.cells + 0 ∧ B.slots = P.slots + 0) := by
  intro m meth c P g ig mk a X hg hsize hdg hW hn hp'
  obtain ⟨rfl, rfl, r1, r2⟩ := hp'
  have al : Z.vm.Alike P.U.vm := hZ.alike.trans X.warmed.alike
  obtain ⟨A, hx⟩ := txt_of wi al E V C K hc hb l2
  obtain ⟨A', hy⟩ := txt_of wi al E' V' C' K' hc' hb' l2'
  obtain ⟨v, B, X', ⟨⟨w, hv, hh, hq⟩, hl, hk, hs⟩, st⟩ := SEq.pays x t A cd cs.length (fun j => cs.getD j 0) y t' A' cd' ds.length (fun j => ds.getD j 0) z (tabEq_of (movedEq hZ hw)) hfr hlo m meth c P g ig mk _ X hg hsize hdg hW hn ⟨r1, r2, rfl, hx, hy, sta_is al S, hz⟩
  refine ⟨v, B, X', ⟨[], ⟨?_, rfl, hh⟩, hl, hk, hs⟩, st⟩
  rcases hq with ⟨rfl, q⟩ | ⟨rfl, q⟩
  · exact Or.inl ⟨hv, (same_list cs ds).mp q⟩
  · exact Or.inr ⟨hv, fun e => q ((same_list cs ds).mpr e)⟩
end StrChars.Road
end Jvm.Pilot.@@N@@
namespace Jvm.Pilot.@@N@@
open Jvm Jvm.ClassFile Sem Op Lib Jvm.Free Jvm.Stand Jvm.LawKit Jvm.RoadKit Bundle Jvm.Pilot.@@N@@.Jvm.D
def Av (Z : State) (h : Heap) (a : Addr) (ty : FieldType) (n : Int32) (vs : List Value) (d : Value) : Prop := ∃ k, Arv Z h a k ty n vs d
theorem Av.lt {Z : State} {h : Heap} {a : Addr} {ty : FieldType} {n : Int32} {vs : List Value} {d : Value} (F : Av Z h a ty n vs d) : a < h.size := by obtain ⟨k, F⟩ := F; exact F.lt
theorem Av.ext {Z : State} {h h' : Heap} {a : Addr} {ty : FieldType} {n : Int32} {vs : List Value} {d : Value} (F : Av Z h a ty n vs d) (E : Ext h h') : Av Z h' a ty n vs d := by obtain ⟨k, F⟩ := F; exact ⟨k, F.ext E⟩
theorem Av.other {Z : State} {h h' : Heap} {a b : Addr} {ty : FieldType} {n : Int32} {vs : List Value} {d : Value} {sl : Nat} {v : Value} (F : Av Z h b ty n vs d) (W : Wr h h' a sl v) (q : b ≠ a) : Av Z h' b ty n vs d := by obtain ⟨k, F⟩ := F; exact ⟨k, F.other W q⟩
def Al (Z : State) (h : Heap) (a : Addr) (ty : FieldType) (n : Int32) : Prop := ∃ c : Cell, Arr Z h a c ty ∧ c.slots.size = n.toNatClampNeg ∧ ¬ n < 0
theorem Al.lt {Z : State} {h : Heap} {a : Addr} {ty : FieldType} {n : Int32} (F : Al Z h a ty n) : a < h.size := by obtain ⟨c, A, -⟩ := F; exact A.lt
theorem Al.ext {Z : State} {h h' : Heap} {a : Addr} {ty : FieldType} {n : Int32} (F : Al Z h a ty n) (E : Ext h h') : Al Z h' a ty n := by obtain ⟨c, A, r⟩ := F; exact ⟨c, A.ext E, r⟩
theorem Al.other {Z : State} {h h' : Heap} {a b : Addr} {ty : FieldType} {n : Int32} {sl : Nat} {v : Value} (F : Al Z h b ty n) (W : Wr h h' a sl v) (q : b ≠ a) : Al Z h' b ty n := by obtain ⟨c, A, r⟩ := F; exact ⟨c, A.other W q, r⟩
theorem Al.same {Z : State} {h h' : Heap} {a : Addr} {ty : FieldType} {n : Int32} {sl : Nat} {v : Value} (F : Al Z h a ty n) (W : Wr h h' a sl v) : Al Z h' a ty n := by obtain ⟨c, A, r⟩ := F; exact ⟨_, A.same W, by rw [sz_set]; exact r.1, r.2⟩
theorem Al.keep {Z : State} {h h' : Heap} {a : Addr} {ty : FieldType} {n : Int32} {ws : List Addr} (F : Al Z h a ty n) (K : Keep h h' ws) (q : a ∉ ws) : Al Z h' a ty n := by obtain ⟨c, A, r⟩ := F; exact ⟨c, ⟨K.2.1 a c A.1 q, A.2⟩, r⟩
theorem Av.al {Z : State} {h : Heap} {a : Addr} {ty : FieldType} {n : Int32} {vs : List Value} {d : Value} (F : Av Z h a ty n vs d) : Al Z h a ty n := by obtain ⟨k, c, A, -, r1, r2, -⟩ := F; exact ⟨c, A, r1, r2⟩
theorem Av.keep {Z : State} {h h' : Heap} {a : Addr} {ty : FieldType} {n : Int32} {vs : List Value} {d : Value} {ws : List Addr} (F : Av Z h a ty n vs d) (K : Keep h h' ws) (q : a ∉ ws) : Av Z h' a ty n vs d := by obtain ⟨k, F⟩ := F; exact ⟨k, F.keep K q⟩
abbrev MN1 : MethodName := ⟨"com/example/topiq/topiq/protocol/MessageQueueEqualsPinLaw", "len", "(J)I"⟩
abbrev MN2 : MethodName := ⟨"com/example/topiq/topiq/protocol/MessageQueueEqualsPinLaw", "ch", "(JI)I"⟩
abbrev MN3 : MethodName := ⟨"com/example/topiq/topiq/protocol/MessageQueueEqualsPinLaw", "mk", "(III)Ljava/lang/String;"⟩
abbrev MN4 : MethodName := ⟨"java/lang/String", "<init>", "([C)V"⟩
abbrev MN5 : MethodName := ⟨"java/lang/String", "<init>", "([CIILjava/lang/Void;)V"⟩
abbrev MN10 : MethodName := ⟨"com/example/topiq/topiq/protocol/MessageQueue", "<init>", "(Ljava/lang/String;Ljava/lang/String;I)V"⟩
abbrev MN11 : MethodName := ⟨"com/example/topiq/topiq/protocol/MessageQueueEqualsPinLaw", "same", "(IIIIII)Z"⟩
abbrev MN12 : MethodName := ⟨"com/example/topiq/topiq/protocol/MessageQueue", "equals", "(Ljava/lang/Object;)Z"⟩
abbrev MN13 : MethodName := ⟨"java/lang/String", "equals", "(Ljava/lang/Object;)Z"⟩
theorem own_nat (n k : Nat) : (n &&& 2 ^ k = 0) ↔ (n / 2 ^ k) % 2 = 0 := by
  constructor
  · intro h
    have : (n &&& 2 ^ k).testBit k = false := by rw [h]; simp
    rw [Nat.testBit_and, Nat.testBit_two_pow_self, Bool.and_true, Nat.testBit_eq_decide_div_mod_eq] at this
    have := of_decide_eq_false this
    omega
  · intro h
    apply Nat.eq_of_testBit_eq
    intro i
    rw [Nat.testBit_and, Nat.zero_testBit, Nat.testBit_two_pow]
    by_cases e : k = i
    · subst e
      rw [Nat.testBit_eq_decide_div_mod_eq]
      simp [h]
    · simp [e]
theorem own_pow32 (x : Int32) (m : Int32) (k : Nat) (hm : m.toBitVec.toNat = 2 ^ k) : (x &&& m = 0) ↔ (x.toBitVec.toNat / 2 ^ k) % 2 = 0 := by
  have e1 : (x &&& m).toBitVec.toNat = x.toBitVec.toNat &&& 2 ^ k := by
    show (x.toBitVec &&& m.toBitVec).toNat = _
    rw [BitVec.toNat_and, hm]
  have e2 : (x &&& m = 0) ↔ (x &&& m).toBitVec.toNat = 0 := by
    rw [← Int32.toBitVec_inj, ← BitVec.toNat_inj]; rfl
  rw [e2, e1, own_nat]
theorem own_tn32 (x : Int32) : (x.toBitVec.toNat : Int) = x.toInt % 4294967296 := by
  have h := BitVec.toInt_eq_toNat_bmod x.toBitVec
  show (x.toBitVec.toNat : Int) = x.toBitVec.toInt % 4294967296
  have h2 := x.toBitVec.isLt
  have h3 := bm32 (x.toBitVec.toNat : Int)
  rw [h]
  omega
theorem own_dist (a b c : Int32) : ((a ^^^ b) &&& c) = ((a &&& c) ^^^ (b &&& c)) := by
  apply Int32.toBitVec_inj.mp
  show (a.toBitVec ^^^ b.toBitVec) &&& c.toBitVec = (a.toBitVec &&& c.toBitVec) ^^^ (b.toBitVec &&& c.toBitVec)
  apply BitVec.eq_of_getLsbD_eq
  intro i hi
  simp only [BitVec.getLsbD_and, BitVec.getLsbD_xor]
  cases a.toBitVec.getLsbD i <;> cases b.toBitVec.getLsbD i <;> cases c.toBitVec.getLsbD i <;> rfl
theorem own_disto (a b c : Int32) : ((a ||| b) &&& c) = ((a &&& c) ||| (b &&& c)) := by
  apply Int32.toBitVec_inj.mp
  show (a.toBitVec ||| b.toBitVec) &&& c.toBitVec = (a.toBitVec &&& c.toBitVec) ||| (b.toBitVec &&& c.toBitVec)
  apply BitVec.eq_of_getLsbD_eq
  intro i hi
  simp only [BitVec.getLsbD_and, BitVec.getLsbD_or]
  cases a.toBitVec.getLsbD i <;> cases b.toBitVec.getLsbD i <;> cases c.toBitVec.getLsbD i <;> rfl
theorem own_EW {Z : State} {a0 : Array Value} (hw : ∀ d ∈ tables_1, d.before a0 Z = true) : EW Z a0 consts_1 := (EW.cons (hw _ (List.mem_of_getElem? (i := 75) rfl)) (by decide) EW.nil)
theorem own_safeAv {Z : State} {EL : List (String × Nat)} {vm : Vm} {h : Heap} {x : Addr} {ty : FieldType} {n : Int32} {vs : List Value} {d : Value} (hal : Z.vm.Alike vm) (A : Av Z h x ty n vs d) (ht : ty ≠ .byte) : Safe Z EL vm h x := by
  obtain ⟨k, c, q, -⟩ := A
  exact Safe.arr hal q ht
theorem own_safeAl {Z : State} {EL : List (String × Nat)} {vm : Vm} {h : Heap} {x : Addr} {ty : FieldType} {n : Int32} (hal : Z.vm.Alike vm) (A : Al Z h x ty n) (ht : ty ≠ .byte) : Safe Z EL vm h x := by
  obtain ⟨c, q, -⟩ := A
  exact Safe.arr hal q ht
theorem own_safeNull {Z : State} {EL : List (String × Nat)} {vm : Vm} {h : Heap} {x : Addr} (hal : Z.vm.Alike vm) (E : Exa Z h x "java/lang/String") (F0 : Fld Z h x "java/lang/String" "value" "[B" .null) : Safe Z EL vm h x := fun B => by
  obtain ⟨cell, k, e1, e2, e3, -, -⟩ := E
  obtain ⟨p, -, u, a, -, q, -, F, rfl | rfl⟩ := B
  · obtain ⟨cS, ⟨⟨s1, s2, s3, ⟨cv, kv, iv, s4, s4'⟩, -, s6, -, s8, -⟩, -⟩, -⟩ := F
    obtain ⟨kv', z4⟩ := ff_back (U := Wst Z vm h) hal s4
    obtain ⟨cell', c1, k1, i1, f1, g1, g2, g3, g4, g5, g6, g7⟩ := F0
    cases (show h[q.sa]? = some q.sC from s1).symm.trans g1
    have e4 := z4.symm.trans g2
    simp only [Option.some.injEq, Prod.mk.injEq] at e4
    rw [← e4.2.2.2, s8] at g7
    cases g7
  · cases (show h[q.sd]? = some q.SA from F.hd).symm.trans e1
    obtain ⟨cS, -, -, f, -⟩ := F
    have f : vm.findClass "[B" = some q.SA.cls := f
    rw [hal.findClass] at f
    obtain ⟨k1, q1, q2⟩ := Vm.findClass_spec f
    obtain ⟨k2, q3, q4⟩ := Vm.findClass_spec e2
    cases q1.symm.trans q3
    exact absurd (q2.symm.trans q4) (by decide)
theorem own_noinst {Z : State} {a0 : Array Value} (w1 : (Jvm.Cond.superclass "java/lang/String" "java/lang/Object").before a0 Z = true) (w2 : (Jvm.Cond.noSuperclass "java/lang/Object").before a0 Z = true) (w3 : (Jvm.Cond.instantiable "com/example/topiq/topiq/protocol/MessageQueue" 3).before a0 Z = true) : ∃ c t, Z.vm.findClass "java/lang/String" = some c ∧ Z.vm.findClass "com/example/topiq/topiq/protocol/MessageQueue" = some t ∧ Z.vm.assignable c t = false := by
  obtain ⟨t, k, g1, g2, g3, g4, -, -⟩ := Cond.instantiable_spec w3
  obtain ⟨c0, k0, h1, h2, h3, -, -⟩ := Cond.noSuperclass_spec w2
  have hi : k.isInterface = false := by simp only [Bool.or_eq_false_iff] at g4; exact g4.1
  have n0 : NS Z "java/lang/Object" "com/example/topiq/topiq/protocol/MessageQueue" := by
    have ne := ids_ne h1 g1 (by decide)
    refine ⟨c0, t, h1, g1, fun fuel => ?_⟩
    cases fuel with
    | zero => rfl
    | succ f => simp [Vm.isSubclassAux, ne, h2, h3]
  obtain ⟨c, t', q1, q2, q3⟩ := NS.step w1 n0 (by decide)
  cases g1.symm.trans q2
  obtain ⟨p, kc, kp, r1, r2, r3, r4, r5, -, r7⟩ := Cond.superclass_spec q1 w1
  have ne := ids_ne q1 g1 (by decide)
  refine ⟨c, t, q1, g1, ?_⟩
  show Z.vm.assignableAux (255 + 1) c t = false
  simp [Vm.assignableAux, ne, r2, g2, r5, g3, hi, Vm.isSubclass, q3]
theorem own_pick {v : Option Value} {c : Prop} [Decidable c] (h : (v = some (.int 1) ∧ c) ∨ (v = some (.int 0) ∧ ¬ c)) : v = some (.int (if c then (1 : Int32) else (0 : Int32))) := by
  rcases h with ⟨rfl, q⟩ | ⟨rfl, q⟩
  · rw [if_pos q]
  · rw [if_neg q]
def own_bl (l c0 c1 : Int32) : List Int32 := if l = 0 then [] else if l = 1 then [c0] else [c0, c1]
def own_vs (cs : List Int32) : List Value := cs.map fun c => Value.int (StrChars.lo8 c)
def own_len (v : Int64) : Int32 := if ((v &&& (3 : Int64)).toInt32) = 3 then 2 else ((v &&& (3 : Int64)).toInt32)
theorem own_len3 (v : Int64) : own_len v = 0 ∨ own_len v = 1 ∨ own_len v = 2 := by
  have e := c_maskL v 3 2 (by decide) (by decide)
  have f := c_l2i (v &&& 3)
  have r := (v &&& (3 : Int64)).toInt32.toInt_lt
  have r' := (v &&& (3 : Int64)).toInt32.le_toInt
  unfold own_len
  by_cases q : ((v &&& (3 : Int64)).toInt32) = 3
  · rw [if_pos q]; exact Or.inr (Or.inr rfl)
  · rw [if_neg q]
    rw [← Int32.toInt_inj] at q
    rw [← Int32.toInt_inj, ← Int32.toInt_inj, ← Int32.toInt_inj]
    simp only [Int32.reduceToInt] at q ⊢
    omega
theorem own_chr (x : Int64) : ¬ (((x &&& (255 : Int64)).toInt32)) < 0 ∧ ¬ (255 : Int32) < (((x &&& (255 : Int64)).toInt32)) := by
  have e := c_maskL x 255 8 (by decide) (by decide)
  have f := c_l2i (x &&& 255)
  have r := (x &&& (255 : Int64)).toInt32.toInt_lt
  have r' := (x &&& (255 : Int64)).toInt32.le_toInt
  rw [Int32.lt_iff_toInt_lt, Int32.lt_iff_toInt_lt]
  simp only [Int32.reduceToInt]
  omega
theorem own_i2c {c : Int32} (h : ¬ c < 0 ∧ ¬ (255 : Int32) < c) : c.toUInt32.toUInt16.toUInt32.toInt32 = c := by
  have e := c_mask c 255 8 (by decide) (by decide)
  have q : c &&& 255 = c := by
    rw [Int32.lt_iff_toInt_lt, Int32.lt_iff_toInt_lt] at h
    simp only [Int32.reduceToInt] at h
    rw [← Int32.toInt_inj, e]
    omega
  have f := i2c_mask c
  rw [q] at f
  exact f
theorem own_i2cn {c : Int32} (h : ¬ c < 0 ∧ ¬ (255 : Int32) < c) : nar .char (c.toUInt32.toUInt16.toUInt32.toInt32) = c := by
  rw [own_i2c h]
  show c.toUInt32.toUInt16.toUInt32.toInt32 = c
  exact own_i2c h
theorem own_blr {l c0 c1 : Int32} (h0 : ¬ c0 < 0 ∧ ¬ (255 : Int32) < c0) (h1 : ¬ c1 < 0 ∧ ¬ (255 : Int32) < c1) : ∀ c ∈ own_bl l c0 c1, ¬ c < 0 ∧ ¬ (255 : Int32) < c := by
  intro c hc
  unfold own_bl at hc
  split at hc
  · cases hc
  · split at hc
    · simp only [List.mem_cons, List.not_mem_nil, or_false] at hc
      subst hc; exact h0
    · simp only [List.mem_cons, List.not_mem_nil, or_false] at hc
      rcases hc with rfl | rfl
      · exact h0
      · exact h1
theorem own_bll {l c0 c1 : Int32} (h : l = 0 ∨ l = 1 ∨ l = 2) : l = Int32.ofNat (own_bl l c0 c1).length := by
  rcases h with rfl | rfl | rfl <;> rfl
theorem own_ble {l c0 c1 : Int32} : (own_bl l c0 c1).length ≤ 4000 := by
  unfold own_bl
  split
  · simp
  · split <;> simp
theorem own_cod {cs : List Int32} {n : Int32} (hn : n = Int32.ofNat cs.length) (hr : ∀ c ∈ cs, ¬ c < 0 ∧ ¬ (255 : Int32) < c) : StrChars.Road.CodA cs 0 n (own_vs cs) := Or.inl ⟨rfl, hn, rfl, fun c hc => (hr c hc).2⟩
theorem own_wid {cs : List Int32} (hr : ∀ c ∈ cs, ¬ c < 0 ∧ ¬ (255 : Int32) < c) : ∀ c ∈ cs, ¬ c < 0 ∧ ¬ (65535 : Int32) < c := by
  intro c hc
  have q := hr c hc
  rw [Int32.lt_iff_toInt_lt, Int32.lt_iff_toInt_lt] at q ⊢
  simp only [Int32.reduceToInt] at q ⊢
  omega
theorem own_s1 {la a0 a1 lb b0 b1 : Int32} (ha : la = 0 ∨ la = 1 ∨ la = 2) (hb : lb = 0 ∨ lb = 1 ∨ lb = 2) (h : ¬ (la = lb)) : ¬ own_bl la a0 a1 = own_bl lb b0 b1 := by
  intro q
  have e := own_bll (c0 := a0) (c1 := a1) ha
  rw [q, ← own_bll (c0 := b0) (c1 := b1) hb] at e
  exact h e
theorem own_s2 {la a0 a1 lb b0 b1 : Int32} (ha : la = 0 ∨ la = 1 ∨ la = 2) (h : la = lb) (g : ¬ la < 1) (q : ¬ a0 = b0) : ¬ own_bl la a0 a1 = own_bl lb b0 b1 := by
  subst h
  intro e
  rcases ha with rfl | rfl | rfl
  · exact g (by decide)
  · exact q (by injection e)
  · exact q (by injection e)
theorem own_s3 {la a0 a1 lb b0 b1 : Int32} (ha : la = 0 ∨ la = 1 ∨ la = 2) (h : la = lb) (g : ¬ la < 2) (q : ¬ a1 = b1) : ¬ own_bl la a0 a1 = own_bl lb b0 b1 := by
  subst h
  intro e
  rcases ha with rfl | rfl | rfl
  · exact g (by decide)
  · exact g (by decide)
  · injection e with e1 e2; injection e2 with e3; exact q e3
theorem own_s4 {la a0 a1 lb b0 b1 : Int32} (ha : la = 0 ∨ la = 1 ∨ la = 2) (h : la = lb) (g : la < 1 ∨ a0 = b0) (q : la < 2 ∨ a1 = b1) : own_bl la a0 a1 = own_bl lb b0 b1 := by
  subst h
  rcases ha with rfl | rfl | rfl
  · rfl
  · rcases g with g | rfl
    · exact absurd g (by decide)
    · rfl
  · rcases g with g | rfl
    · exact absurd g (by decide)
    · rcases q with q | rfl
      · exact absurd q (by decide)
      · rfl
theorem own_12 {x : Int32} (h : x < 1) : x < 2 := by
  rw [Int32.lt_iff_toInt_lt] at h ⊢
  simp only [Int32.reduceToInt] at h ⊢
  omega
theorem own_nz {args : Array Value} {s : State} {t : Term} {x : Int32} (h : (Jvm.Cond.not (Jvm.Cond.eq t (.int 0))).value args s none s [] = some true) (e : t.eval args s none [] s = some (.int x)) : ¬ (x = (0 : Int32)) := by
  have q := not_v h
  simpa [Jvm.Cond.value, e, Term.eval] using q
theorem d1_0 : decode method_2_code 0 = .ok (.lload_n 0, 1) := by decide +kernel
theorem d1_1 : decode method_2_code 1 = .ok (.ldc2_w 7, 3) := by decide +kernel
theorem d1_4 : decode method_2_code 4 = .ok (.land, 1) := by decide +kernel
theorem d1_5 : decode method_2_code 5 = .ok (.l2i, 1) := by decide +kernel
theorem d1_6 : decode method_2_code 6 = .ok (.istore_n 2, 1) := by decide +kernel
theorem d1_7 : decode method_2_code 7 = .ok (.iload_n 2, 1) := by decide +kernel
theorem d1_8 : decode method_2_code 8 = .ok (.iconst 3, 1) := by decide +kernel
theorem d1_9 : decode method_2_code 9 = .ok (.if_icmp .ne 7, 3) := by decide +kernel
theorem d1_12 : decode method_2_code 12 = .ok (.iconst 2, 1) := by decide +kernel
theorem d1_13 : decode method_2_code 13 = .ok (.goto 4, 3) := by decide +kernel
theorem d1_17 : decode method_2_code 17 = .ok (.ireturn, 1) := by decide +kernel
theorem d1_16 : decode method_2_code 16 = .ok (.iload_n 2, 1) := by decide +kernel
theorem pn_com_example_topiq_topiq_protocol_MessageQueueEqualsPinLaw : plainName "com/example/topiq/topiq/protocol/MessageQueueEqualsPinLaw" = true := by first | (simp [plainName, overriddenIn]; done) | decide +kernel
theorem ef_rm1 (m : MethodId) (x0 : Int64) : entryFrame m #[(.long x0)] 3 = mkF m 0 #[.val (.long x0), .second, .unset] [] := by first | (simp [entryFrame, mkF, argsToLocals, Value.category]; done) | rfl
def Q_rm1 (Z : State) (q1_0 : Int64) (h0 : Heap) (n0 : Nat) (v : Option Value) (h : Heap) (L : List Loc) : Prop := v = some (.int (own_len q1_0)) ∧ Fr n0 L ∧ h = h0
set_option maxRecDepth 65536 in
set_option maxHeartbeats 40000000 in
theorem rm1 (l : Launch) (Z : State) (a0 : Array Value) (hw : ∀ d ∈ tables_1, d.before a0 Z = true) (ws : List Jvm.Cond) (q1_0 : Int64) (h0 : Heap) (n0 : Nat) (Z0 : n0 ≤ h0.size) :
    MetFree l (⟨"com/example/topiq/topiq/protocol/MessageQueueEqualsPinLaw", "len", "(J)I"⟩ : MethodName) (head1 (Jvm.Cond.code (⟨"com/example/topiq/topiq/protocol/MessageQueueEqualsPinLaw", "len", "(J)I"⟩ : MethodName) method_2_code 3 (some .int) :: ws) ({ frames := 0, cells := 0, slots := 0, locals := 0 } : Room)) (fun a U => a = #[(.long q1_0)] ∧ Z.Warmed39 U.vm ∧ U.heap = h0) (fun _ _ _ _ _ => True) (fun _ U o U' => ∃ v L, o = .returned v ∧ Q_rm1 Z q1_0 h0 n0 v U'.heap L ∧ FrameEnd U o U' L ({ frames := 0, cells := 0, slots := 0, locals := 0 } : Room).cells ({ frames := 0, cells := 0, slots := 0, locals := 0 } : Room).slots) := by
  refine MetFree.of_bodySF (plainFor_of_name pn_com_example_topiq_topiq_protocol_MessageQueueEqualsPinLaw) hisR ?_
  intro p e s m args below meth c s₁ Bd hml0 hP hK
  obtain ⟨rfl, hZ, hh⟩ := hP
  have hx := Bd.exec
  have hby := Bd.bytes
  have hml : c.maxLocals = 3 := hml0
  have hown : s.vm.findClass "com/example/topiq/topiq/protocol/MessageQueueEqualsPinLaw" = some m.cls := findClass_of_methodNamed Bd.named
  have hnm := (name_of_methodNamed Bd.named Bd.method).1
  have X0 : Stand p l e ({ frames := 0, cells := 0, slots := 0, locals := 0 } : Room) s m #[(.long q1_0)] below meth c s₁ [] 0 0 := Stand.of_body Bd
  have e0 : s₁.heap = h0 := by rw [← hh, Bd.state]; rfl
  have N0 := Fr.nil n0
  have pre0 : ∀ t, Steps p.tables e below (s₁.setTop (mkF m 0 #[.val (.long q1_0), .second, .unset] [])) t → Steps p.tables e below (s₁.setTop (entryFrame m #[(.long q1_0)] 3)) t := fun t k => castTop (ef_rm1 m q1_0) k
  have wo4 := hw _ (List.mem_of_getElem? (i := 4) rfl)
  have pre2 : ∀ t, Steps p.tables e below (s₁.setTop (mkF m 9 #[.val (.long q1_0), .second, iv ((q1_0 &&& (3 : Int64)).toInt32)] [(.int (3 : Int32)), (.int ((q1_0 &&& (3 : Int64)).toInt32))])) t → Steps p.tables e below (s₁.setTop (entryFrame m #[(.long q1_0)] 3)) t := by
    intro t_ k_
    refine pre0 _ ?_
    show Steps p.tables e below (s₁.setTop (mkF m 0 #[.val (.long q1_0), .second, .unset] [])) _
    refine XS.lloadN X0.here hx rfl (hb hby d1_0) rfl ?_
    show Steps p.tables e below (s₁.setTop (mkF m 1 #[.val (.long q1_0), .second, .unset] [(.long q1_0)])) _
    refine X0.ldc2Long hx hown (mvT hZ wo4) (g := (mkF m 1 #[.val (.long q1_0), .second, .unset] [(.long q1_0)])) rfl (hb hby d1_1) _ ?_
    show Steps p.tables e below (s₁.setTop (mkF m 4 #[.val (.long q1_0), .second, .unset] [(.long (3 : Int64)), (.long q1_0)])) _
    refine XS.land X0.here hx rfl (hb hby d1_4) rfl ?_
    show Steps p.tables e below (s₁.setTop (mkF m 5 #[.val (.long q1_0), .second, .unset] [(.long (q1_0 &&& (3 : Int64)))])) _
    refine XS.l2i X0.here hx rfl (hb hby d1_5) rfl ?_
    show Steps p.tables e below (s₁.setTop (mkF m 6 #[.val (.long q1_0), .second, .unset] [(.int ((q1_0 &&& (3 : Int64)).toInt32))])) _
    refine XS.istoreN X0.here hx rfl (hb hby d1_6) rfl (l' := #[.val (.long q1_0), .second, iv ((q1_0 &&& (3 : Int64)).toInt32)]) rfl ?_
    show Steps p.tables e below (s₁.setTop (mkF m 7 #[.val (.long q1_0), .second, iv ((q1_0 &&& (3 : Int64)).toInt32)] [])) _
    refine XS.iloadN X0.here hx rfl (hb hby d1_7) rfl ?_
    show Steps p.tables e below (s₁.setTop (mkF m 8 #[.val (.long q1_0), .second, iv ((q1_0 &&& (3 : Int64)).toInt32)] [(.int ((q1_0 &&& (3 : Int64)).toInt32))])) _
    refine XS.iconst X0.here hx rfl (hb hby d1_8) ?_
    exact k_
  by_cases hc9_1 : ((q1_0 &&& (3 : Int64)).toInt32) = (3 : Int32)
  · skip
    obtain ⟨fs, hr, hrun, hended, hW, hsame⟩ := X0.leave (v := some (.int (2 : Int32))) (fun h => by rw [Bd.returns] at h; cases h)
    refine ⟨_, _, pre2 _ ?_, hrun, hended, _, _, rfl, ?_, ⟨_, rfl⟩, hW, hsame.mono (by decide) (by decide)⟩
    · show Steps p.tables e below (s₁.setTop (mkF m 9 #[.val (.long q1_0), .second, iv ((q1_0 &&& (3 : Int64)).toInt32)] [(.int (3 : Int32)), (.int ((q1_0 &&& (3 : Int64)).toInt32))])) _
      refine XS.icmpNo X0.here hx rfl (hb hby d1_9) rfl (teq hc9_1).2 ?_
      show Steps p.tables e below (s₁.setTop (mkF m 12 #[.val (.long q1_0), .second, iv ((q1_0 &&& (3 : Int64)).toInt32)] [])) _
      refine XS.iconst X0.here hx rfl (hb hby d1_12) ?_
      show Steps p.tables e below (s₁.setTop (mkF m 13 #[.val (.long q1_0), .second, iv ((q1_0 &&& (3 : Int64)).toInt32)] [(.int (2 : Int32))])) _
      refine XS.goto X0.here hx rfl (pc0 := 13) (pc' := 17) rfl (hb hby d1_13) (by decide) (by decide) ?_
      show Steps p.tables e below (s₁.setTop (mkF m 17 #[.val (.long q1_0), .second, iv ((q1_0 &&& (3 : Int64)).toInt32)] [(.int (2 : Int32))])) _
      exact retI X0 hx Bd.returns (hb hby d1_17) hr
    · show Q_rm1 Z _ h0 n0 _ s₁.heap _
      rw [e0]
      exact ⟨(by show some (Value.int _) = some (Value.int _); congr 2; exact (if_pos hc9_1).symm), N0, rfl⟩
  · skip
    obtain ⟨fs, hr, hrun, hended, hW, hsame⟩ := X0.leave (v := some (.int ((q1_0 &&& (3 : Int64)).toInt32))) (fun h => by rw [Bd.returns] at h; cases h)
    refine ⟨_, _, pre2 _ ?_, hrun, hended, _, _, rfl, ?_, ⟨_, rfl⟩, hW, hsame.mono (by decide) (by decide)⟩
    · show Steps p.tables e below (s₁.setTop (mkF m 9 #[.val (.long q1_0), .second, iv ((q1_0 &&& (3 : Int64)).toInt32)] [(.int (3 : Int32)), (.int ((q1_0 &&& (3 : Int64)).toInt32))])) _
      refine XS.icmpYes X0.here hx rfl (pc0 := 9) (pc' := 16) rfl (hb hby d1_9) rfl (feq hc9_1).2 (by decide) (by decide) ?_
      show Steps p.tables e below (s₁.setTop (mkF m 16 #[.val (.long q1_0), .second, iv ((q1_0 &&& (3 : Int64)).toInt32)] [])) _
      refine XS.iloadN X0.here hx rfl (hb hby d1_16) rfl ?_
      show Steps p.tables e below (s₁.setTop (mkF m 17 #[.val (.long q1_0), .second, iv ((q1_0 &&& (3 : Int64)).toInt32)] [(.int ((q1_0 &&& (3 : Int64)).toInt32))])) _
      exact retI X0 hx Bd.returns (hb hby d1_17) hr
    · show Q_rm1 Z _ h0 n0 _ s₁.heap _
      rw [e0]
      exact ⟨(by show some (Value.int _) = some (Value.int _); congr 2; exact (if_neg hc9_1).symm), N0, rfl⟩
theorem d2_0 : decode method_3_code 0 = .ok (.lload_n 0, 1) := by decide +kernel
theorem d2_1 : decode method_3_code 1 = .ok (.iload_n 2, 1) := by decide +kernel
theorem d2_2 : decode method_3_code 2 = .ok (.lushr, 1) := by decide +kernel
theorem d2_3 : decode method_3_code 3 = .ok (.ldc2_w 9, 3) := by decide +kernel
theorem d2_6 : decode method_3_code 6 = .ok (.land, 1) := by decide +kernel
theorem d2_7 : decode method_3_code 7 = .ok (.l2i, 1) := by decide +kernel
theorem d2_8 : decode method_3_code 8 = .ok (.ireturn, 1) := by decide +kernel
theorem ef_rm2 (m : MethodId) (x0 : Int64) (x1 : Int32) : entryFrame m #[(.long x0), (.int x1)] 3 = mkF m 0 #[.val (.long x0), .second, iv x1] [] := by first | (simp [entryFrame, mkF, argsToLocals, Value.category]; done) | rfl
def Q_rm2 (Z : State) (q2_0 : Int64) (p2_1 : Int32) (h0 : Heap) (n0 : Nat) (v : Option Value) (h : Heap) (L : List Loc) : Prop := v = some (.int (((q2_0.toUInt64 >>> (p2_1 &&& 0x3f).toInt64.toUInt64).toInt64 &&& (255 : Int64)).toInt32)) ∧ Fr n0 L ∧ h = h0
set_option maxRecDepth 65536 in
set_option maxHeartbeats 40000000 in
theorem rm2 (l : Launch) (Z : State) (a0 : Array Value) (hw : ∀ d ∈ tables_1, d.before a0 Z = true) (ws : List Jvm.Cond) (q2_0 : Int64) (p2_1 : Int32) (h0 : Heap) (n0 : Nat) (Z0 : n0 ≤ h0.size) :
    MetFree l (⟨"com/example/topiq/topiq/protocol/MessageQueueEqualsPinLaw", "ch", "(JI)I"⟩ : MethodName) (head1 (Jvm.Cond.code (⟨"com/example/topiq/topiq/protocol/MessageQueueEqualsPinLaw", "ch", "(JI)I"⟩ : MethodName) method_3_code 3 (some .int) :: ws) ({ frames := 0, cells := 0, slots := 0, locals := 0 } : Room)) (fun a U => a = #[(.long q2_0), (.int p2_1)] ∧ Z.Warmed39 U.vm ∧ U.heap = h0) (fun _ _ _ _ _ => True) (fun _ U o U' => ∃ v L, o = .returned v ∧ Q_rm2 Z q2_0 p2_1 h0 n0 v U'.heap L ∧ FrameEnd U o U' L ({ frames := 0, cells := 0, slots := 0, locals := 0 } : Room).cells ({ frames := 0, cells := 0, slots := 0, locals := 0 } : Room).slots) := by
  refine MetFree.of_bodySF (plainFor_of_name pn_com_example_topiq_topiq_protocol_MessageQueueEqualsPinLaw) hisR ?_
  intro p e s m args below meth c s₁ Bd hml0 hP hK
  obtain ⟨rfl, hZ, hh⟩ := hP
  have hx := Bd.exec
  have hby := Bd.bytes
  have hml : c.maxLocals = 3 := hml0
  have hown : s.vm.findClass "com/example/topiq/topiq/protocol/MessageQueueEqualsPinLaw" = some m.cls := findClass_of_methodNamed Bd.named
  have hnm := (name_of_methodNamed Bd.named Bd.method).1
  have X0 : Stand p l e ({ frames := 0, cells := 0, slots := 0, locals := 0 } : Room) s m #[(.long q2_0), (.int p2_1)] below meth c s₁ [] 0 0 := Stand.of_body Bd
  have e0 : s₁.heap = h0 := by rw [← hh, Bd.state]; rfl
  have N0 := Fr.nil n0
  have pre0 : ∀ t, Steps p.tables e below (s₁.setTop (mkF m 0 #[.val (.long q2_0), .second, iv p2_1] [])) t → Steps p.tables e below (s₁.setTop (entryFrame m #[(.long q2_0), (.int p2_1)] 3)) t := fun t k => castTop (ef_rm2 m q2_0 p2_1) k
  have wo8 := hw _ (List.mem_of_getElem? (i := 8) rfl)
  obtain ⟨fs, hr, hrun, hended, hW, hsame⟩ := X0.leave (v := some (.int ((((q2_0.toUInt64 >>> (p2_1 &&& 0x3f).toInt64.toUInt64).toInt64) &&& (255 : Int64)).toInt32))) (fun h => by rw [Bd.returns] at h; cases h)
  refine ⟨_, _, pre0 _ ?_, hrun, hended, _, _, rfl, ?_, ⟨_, rfl⟩, hW, hsame.mono (by decide) (by decide)⟩
  · show Steps p.tables e below (s₁.setTop (mkF m 0 #[.val (.long q2_0), .second, iv p2_1] [])) _
    refine XS.lloadN X0.here hx rfl (hb hby d2_0) rfl ?_
    show Steps p.tables e below (s₁.setTop (mkF m 1 #[.val (.long q2_0), .second, iv p2_1] [(.long q2_0)])) _
    refine XS.iloadN X0.here hx rfl (hb hby d2_1) rfl ?_
    show Steps p.tables e below (s₁.setTop (mkF m 2 #[.val (.long q2_0), .second, iv p2_1] [(.int p2_1), (.long q2_0)])) _
    refine XS.lushr X0.here hx rfl (hb hby d2_2) rfl ?_
    show Steps p.tables e below (s₁.setTop (mkF m 3 #[.val (.long q2_0), .second, iv p2_1] [(.long ((q2_0.toUInt64 >>> (p2_1 &&& 0x3f).toInt64.toUInt64).toInt64))])) _
    refine X0.ldc2Long hx hown (mvT hZ wo8) (g := (mkF m 3 #[.val (.long q2_0), .second, iv p2_1] [(.long ((q2_0.toUInt64 >>> (p2_1 &&& 0x3f).toInt64.toUInt64).toInt64))])) rfl (hb hby d2_3) _ ?_
    show Steps p.tables e below (s₁.setTop (mkF m 6 #[.val (.long q2_0), .second, iv p2_1] [(.long (255 : Int64)), (.long ((q2_0.toUInt64 >>> (p2_1 &&& 0x3f).toInt64.toUInt64).toInt64))])) _
    refine XS.land X0.here hx rfl (hb hby d2_6) rfl ?_
    show Steps p.tables e below (s₁.setTop (mkF m 7 #[.val (.long q2_0), .second, iv p2_1] [(.long (((q2_0.toUInt64 >>> (p2_1 &&& 0x3f).toInt64.toUInt64).toInt64) &&& (255 : Int64)))])) _
    refine XS.l2i X0.here hx rfl (hb hby d2_7) rfl ?_
    show Steps p.tables e below (s₁.setTop (mkF m 8 #[.val (.long q2_0), .second, iv p2_1] [(.int ((((q2_0.toUInt64 >>> (p2_1 &&& 0x3f).toInt64.toUInt64).toInt64) &&& (255 : Int64)).toInt32))])) _
    exact retI X0 hx Bd.returns (hb hby d2_8) hr
  · show Q_rm2 Z _ _ h0 n0 _ s₁.heap _
    rw [e0]
    exact ⟨rfl, N0, rfl⟩
theorem d5_0 : decode jdk_42_method_149_code 0 = .ok (.aload_n 0, 1) := by decide +kernel
theorem d5_1 : decode jdk_42_method_149_code 1 = .ok (.invokespecial 1, 3) := by decide +kernel
theorem d5_4 : decode jdk_42_method_149_code 4 = .ok (.iload_n 3, 1) := by decide +kernel
theorem d5_5 : decode jdk_42_method_149_code 5 = .ok (.ifCond .ne 22, 3) := by decide +kernel
theorem d5_8 : decode jdk_42_method_149_code 8 = .ok (.aload_n 0, 1) := by decide +kernel
theorem d5_9 : decode jdk_42_method_149_code 9 = .ok (.ldc 7, 2) := by decide +kernel
theorem d5_11 : decode jdk_42_method_149_code 11 = .ok (.getfield 9, 3) := by decide +kernel
theorem d5_14 : decode jdk_42_method_149_code 14 = .ok (.putfield 9, 3) := by decide +kernel
theorem d5_17 : decode jdk_42_method_149_code 17 = .ok (.aload_n 0, 1) := by decide +kernel
theorem d5_18 : decode jdk_42_method_149_code 18 = .ok (.ldc 7, 2) := by decide +kernel
theorem d5_20 : decode jdk_42_method_149_code 20 = .ok (.getfield 15, 3) := by decide +kernel
theorem d5_23 : decode jdk_42_method_149_code 23 = .ok (.putfield 15, 3) := by decide +kernel
theorem d5_26 : decode jdk_42_method_149_code 26 = .ok (.return_, 1) := by decide +kernel
theorem pn_java_lang_String : plainName "java/lang/String" = true := by first | (simp [plainName, overriddenIn]; done) | decide +kernel
theorem ef_rm5 (m : MethodId) (x0 : Addr) (x1 : Addr) (x2 : Int32) (x3 : Int32) : entryFrame m #[(.ref x0), (.ref x1), (.int x2), (.int x3), .null] 6 = mkF m 0 #[rv x0, rv x1, iv x2, iv x3, .val .null, .unset] [] := by first | (simp [entryFrame, mkF, argsToLocals, Value.category]; done) | rfl
def Q_rm5 (Z : State) (a5_0 : Addr) (cb : Addr) (h0 : Heap) (n0 : Nat) (v : Option Value) (h : Heap) (L : List Loc) : Prop := ∃ (b : Addr), v = none ∧ Fr n0 L ∧ Keep h0 h [a5_0] ∧ (Fld Z h a5_0 "java/lang/String" "value" "[B" (.ref b)) ∧ (Fld Z h a5_0 "java/lang/String" "coder" "B" (.int (0 : Int32))) ∧ (Av Z h b .byte (0 : Int32) [] (.int (0 : Int32)))
set_option maxRecDepth 65536 in
set_option maxHeartbeats 40000000 in
theorem rm5 (l : Launch) (Z : State) (a0 : Array Value) (hw : ∀ d ∈ tables_1, d.before a0 Z = true) (ws : List Jvm.Cond) (a5_0 : Addr) (cb : Addr) (h0 : Heap) (n0 : Nat) (Z0 : n0 ≤ h0.size) (pf_E_a5_0 : Exa Z h0 a5_0 "java/lang/String") (pf_G_a5_0 : n0 ≤ a5_0) (pf_F_a5_0_value : Fld Z h0 a5_0 "java/lang/String" "value" "[B" .null) (pf_F_a5_0_coder : Fld Z h0 a5_0 "java/lang/String" "coder" "B" (.int (0 : Int32))) :
    MetFree l (⟨"java/lang/String", "<init>", "([CIILjava/lang/Void;)V"⟩ : MethodName) (head1 (Jvm.Cond.code (⟨"java/lang/String", "<init>", "([CIILjava/lang/Void;)V"⟩ : MethodName) jdk_42_method_149_code 6 none :: ws) ({ frames := 1, cells := 4, slots := 8, locals := 12 } : Room)) (fun a U => a = #[(.ref a5_0), (.ref cb), (.int (0 : Int32)), (.int (0 : Int32)), .null] ∧ Z.Warmed39 U.vm ∧ U.heap = h0 ∧ CHv Z consts_1 U.vm h0) (fun _ _ _ _ _ => True) (fun _ U o U' => ∃ v L, o = .returned v ∧ Q_rm5 Z a5_0 cb h0 n0 v U'.heap L ∧ CHr Z consts_1 U.vm U.heap U'.vm U'.heap ∧ ReturnedEndW U o U' L ({ frames := 1, cells := 4, slots := 8, locals := 12 } : Room).cells ({ frames := 1, cells := 4, slots := 8, locals := 12 } : Room).slots) := by
  refine MetFree.of_bodySF (plainFor_of_name pn_java_lang_String) hisR ?_
  intro p e s m args below meth c s₁ Bd hml0 hP hK
  obtain ⟨rfl, hZ, hh, CH0⟩ := hP
  have hx := Bd.exec
  have hby := Bd.bytes
  have hml : c.maxLocals = 6 := hml0
  have hown : s.vm.findClass "java/lang/String" = some m.cls := findClass_of_methodNamed Bd.named
  have hnm := (name_of_methodNamed Bd.named Bd.method).1
  have X0 : Stand p l e ({ frames := 1, cells := 4, slots := 8, locals := 12 } : Room) s m #[(.ref a5_0), (.ref cb), (.int (0 : Int32)), (.int (0 : Int32)), .null] below meth c s₁ [] 0 0 := Stand.of_body Bd
  have e0 : s₁.heap = h0 := by rw [← hh, Bd.state]; rfl
  have N0 := Fr.nil n0
  have pre0 : ∀ t, Steps p.tables e below (s₁.setTop (mkF m 0 #[rv a5_0, rv cb, iv (0 : Int32), iv (0 : Int32), .val .null, .unset] [])) t → Steps p.tables e below (s₁.setTop (entryFrame m #[(.ref a5_0), (.ref cb), (.int (0 : Int32)), (.int (0 : Int32)), .null] 6)) t := fun t k => castTop (ef_rm5 m a5_0 cb (0 : Int32) (0 : Int32)) k
  have CR0 := CHr.refl CH0
  have hEL := own_EW hw
  have wo13 := hw _ (List.mem_of_getElem? (i := 13) rfl)
  have wo23 := hw _ (List.mem_of_getElem? (i := 23) rfl)
  have wo24 := hw _ (List.mem_of_getElem? (i := 24) rfl)
  have wo25 := hw _ (List.mem_of_getElem? (i := 25) rfl)
  have wo38 := hw _ (List.mem_of_getElem? (i := 38) rfl)
  have wo39 := hw _ (List.mem_of_getElem? (i := 39) rfl)
  have wo40 := hw _ (List.mem_of_getElem? (i := 40) rfl)
  have wo41 := hw _ (List.mem_of_getElem? (i := 41) rfl)
  have wo75 := hw _ (List.mem_of_getElem? (i := 75) rfl)
  have sf1 : Safe Z consts_1 s.vm h0 a5_0 := own_safeNull hZ.alike pf_E_a5_0 pf_F_a5_0_value
  obtain ⟨T2, X2, e2, st2⟩ := initO X0 hx hZ hown wo23 wo24 wo25 e0 (g := (mkF m 1 #[rv a5_0, rv cb, iv (0 : Int32), iv (0 : Int32), .val .null, .unset] [(.ref a5_0)])) rfl (by rw [hml]; rfl) rfl (hb hby d5_1) (by decide) (W := 0) (by show 2 * 0 + _ ≤ _; exact Nat.le_of_eq rfl) (by decide)
  have pre3 : ∀ t, Steps p.tables e below (T2.setTop (mkF m 9 #[rv a5_0, rv cb, iv (0 : Int32), iv (0 : Int32), .val .null, .unset] [(.ref a5_0)])) t → Steps p.tables e below (s₁.setTop (entryFrame m #[(.ref a5_0), (.ref cb), (.int (0 : Int32)), (.int (0 : Int32)), .null] 6)) t := by
    intro t_ k_
    refine pre0 _ ?_
    show Steps p.tables e below (s₁.setTop (mkF m 0 #[rv a5_0, rv cb, iv (0 : Int32), iv (0 : Int32), .val .null, .unset] [])) _
    refine XS.aloadN X0.here hx rfl (hb hby d5_0) rfl rfl ?_
    show Steps p.tables e below (s₁.setTop (mkF m 1 #[rv a5_0, rv cb, iv (0 : Int32), iv (0 : Int32), .val .null, .unset] [(.ref a5_0)])) _
    refine st2 _ ?_
    show Steps p.tables e below (T2.setTop (mkF m 4 #[rv a5_0, rv cb, iv (0 : Int32), iv (0 : Int32), .val .null, .unset] [])) _
    refine XS.iloadN X2.here hx rfl (hb hby d5_4) rfl ?_
    show Steps p.tables e below (T2.setTop (mkF m 5 #[rv a5_0, rv cb, iv (0 : Int32), iv (0 : Int32), .val .null, .unset] [(.int (0 : Int32))])) _
    refine XS.ifNo X2.here hx rfl (hb hby d5_5) rfl ((if0 _ _).trans (teq (by decide : (0 : Int32) = (0 : Int32))).2) ?_
    show Steps p.tables e below (T2.setTop (mkF m 8 #[rv a5_0, rv cb, iv (0 : Int32), iv (0 : Int32), .val .null, .unset] [])) _
    refine XS.aloadN X2.here hx rfl (hb hby d5_8) rfl rfl ?_
    exact k_
  obtain ⟨sa4, T4, h4, k4, sb4, kb4, X4, e4, E4, S4, K4, hZ, hown, hE4, hC4, hV4, hA4, -, -, cc4, -, NS4, st4⟩ := ldcCH (s := s) (vm0 := s.vm) X2 hx hZ hown wo75 (fun d hd => hw d ((by decide +kernel : ∀ d ∈ Bundle.stringAtoms, d ∈ tables_1) d hd)) e2 ((State.WarmedH.refl s).since 0) (Nat.zero_le _) hEL (List.mem_of_getElem? (i := 0) rfl) CR0.1 (vs := []) (z := 0) ⟨by decide, by rfl⟩ (by decide) (by decide) (g := (mkF m 9 #[rv a5_0, rv cb, iv (0 : Int32), iv (0 : Int32), .val .null, .unset] [(.ref a5_0)])) rfl (hb hby d5_9) (n := 0) (by decide) (by decide) (by decide) (by decide)
  have CS5 : CHr Z consts_1 s.vm h0 T4.vm h4 := cc4
  have sf6 := CHr.safe CS5 pf_E_a5_0.lt sf1
  have CR7 := CR0.trans CS5
  have K8 : Keep h0 h4 [a5_0] := (Keep.refl h0 [a5_0]).ext E4
  have ne9 := NS4 _ sf6
  have f10 : Av Z h4 sb4 .byte (0 : Int32) [] (.int (0 : Int32)) := ⟨kb4, hA4⟩
  obtain ⟨T11, X11, e11, st11⟩ := getF X4 hx hZ hown (host := "") (Or.inl wo40) Via.refl e4 hV4 (g := (mkF m 11 #[rv a5_0, rv cb, iv (0 : Int32), iv (0 : Int32), .val .null, .unset] [(.ref sa4), (.ref a5_0)])) rfl rfl (hb hby d5_11)
  have f12 := (pf_F_a5_0_value.ext E4)
  have f13 := (pf_E_a5_0.ext E4)
  obtain ⟨T14, h14, X14, e14, W14, st14⟩ := putF X11 hx hZ hown (host := "") (Or.inl wo40) Via.refl e11 f12 f13 (Or.inr ⟨wo41, rfl, hnm⟩) wo13 (ty := (.array .byte)) (by decide) rfl rfl (g := (mkF m 14 #[rv a5_0, rv cb, iv (0 : Int32), iv (0 : Int32), .val .null, .unset] [(.ref sb4), (.ref a5_0)])) rfl rfl (hb hby d5_14)
  have CS15 : CHr Z consts_1 T4.vm h4 T4.vm h14 := (CHr.wr W14 sf6 CR7.1)
  have sf16 := CHr.safe CS15 f13.lt sf6
  have CR17 := CR7.trans CS15
  have K18 : Keep h0 h14 [a5_0] := (K8).wr W14 (Or.inl (List.mem_of_getElem? (i := 0) rfl))
  have f19 : Fld Z h14 a5_0 "java/lang/String" "value" "[B" (.ref sb4) := f12.same W14
  have N20 := Fr.snoc X14 N0 pf_G_a5_0
  have pre21 : ∀ t, Steps p.tables e below (T14.setTop (mkF m 18 #[rv a5_0, rv cb, iv (0 : Int32), iv (0 : Int32), .val .null, .unset] [(.ref a5_0)])) t → Steps p.tables e below (s₁.setTop (entryFrame m #[(.ref a5_0), (.ref cb), (.int (0 : Int32)), (.int (0 : Int32)), .null] 6)) t := by
    intro t_ k_
    refine pre3 _ ?_
    show Steps p.tables e below (T2.setTop (mkF m 9 #[rv a5_0, rv cb, iv (0 : Int32), iv (0 : Int32), .val .null, .unset] [(.ref a5_0)])) _
    refine st4 _ ?_
    show Steps p.tables e below (T4.setTop (mkF m 11 #[rv a5_0, rv cb, iv (0 : Int32), iv (0 : Int32), .val .null, .unset] [(.ref sa4), (.ref a5_0)])) _
    refine st11 _ ?_
    show Steps p.tables e below (T11.setTop (mkF m 14 #[rv a5_0, rv cb, iv (0 : Int32), iv (0 : Int32), .val .null, .unset] [(.ref sb4), (.ref a5_0)])) _
    refine st14 _ ?_
    show Steps p.tables e below (T14.setTop (mkF m 17 #[rv a5_0, rv cb, iv (0 : Int32), iv (0 : Int32), .val .null, .unset] [])) _
    refine XS.aloadN X14.here hx rfl (hb hby d5_17) rfl rfl ?_
    exact k_
  have f22 := (Nat.le_trans K4 (Keep.of_wr W14).1)
  obtain ⟨sa23, T23, h23, k23, sb23, kb23, X23, e23, E23, S23, K23, hZ, hown, hE23, hC23, hV23, hA23, -, -, cc23, -, NS23, st23⟩ := ldcCH (s := s) (vm0 := T4.vm) X14 hx hZ hown wo75 (fun d hd => hw d ((by decide +kernel : ∀ d ∈ Bundle.stringAtoms, d ∈ tables_1) d hd)) e14 S4 f22 hEL (List.mem_of_getElem? (i := 0) rfl) CR17.1 (vs := []) (z := 0) ⟨by decide, by rfl⟩ (by decide) (by decide) (g := (mkF m 18 #[rv a5_0, rv cb, iv (0 : Int32), iv (0 : Int32), .val .null, .unset] [(.ref a5_0)])) rfl (hb hby d5_18) (n := 0) (by decide) (by decide) (by decide) (by decide)
  have CS24 : CHr Z consts_1 T4.vm h14 T23.vm h23 := cc23
  have f25 := (f13.wr W14)
  have sf26 := CHr.safe CS24 f25.lt sf16
  have CR27 := CR17.trans CS24
  have K28 : Keep h0 h23 [a5_0] := (K18).ext E23
  have ne29 := NS23 _ sf26
  have f30 : Av Z h23 sb23 .byte (0 : Int32) [] (.int (0 : Int32)) := ⟨kb23, hA23⟩
  obtain ⟨T31, X31, e31, st31⟩ := getF X23 hx hZ hown (host := "") (Or.inl wo38) Via.refl e23 hC23 (g := (mkF m 20 #[rv a5_0, rv cb, iv (0 : Int32), iv (0 : Int32), .val .null, .unset] [(.ref sa23), (.ref a5_0)])) rfl rfl (hb hby d5_20)
  have f32 := (((pf_F_a5_0_coder.ext E4).other W14 (Or.inr (slot_ne (Or.inr wo39) (Or.inr wo41) (by decide) (t := .byte) (t' := (.array .byte)) (by decide) (by decide)))).ext E23)
  have f33 := (f25.ext E23)
  obtain ⟨T34, h34, X34, e34, W34, st34⟩ := putFN X31 hx hZ hown wo38 Via.refl e31 f32 f33 (Or.inr ⟨wo39, rfl, hnm⟩) wo13 (ty := .byte) (v' := (.int (0 : Int32))) (by decide) rfl (by first | rfl | exact fits_nar_byte _) (g := (mkF m 23 #[rv a5_0, rv cb, iv (0 : Int32), iv (0 : Int32), .val .null, .unset] [(.int (0 : Int32)), (.ref a5_0)])) rfl rfl (hb hby d5_23)
  have CS35 : CHr Z consts_1 T23.vm h23 T23.vm h34 := (CHr.wr W34 sf26 CR27.1)
  have sf36 := CHr.safe CS35 f33.lt sf26
  have CR37 := CR27.trans CS35
  have K38 : Keep h0 h34 [a5_0] := (K28).wr W34 (Or.inl (List.mem_of_getElem? (i := 0) rfl))
  have f39 : Fld Z h34 a5_0 "java/lang/String" "coder" "B" (.int (0 : Int32)) := f32.same W34
  have N40 := Fr.snoc X34 N20 pf_G_a5_0
  have f41 := ((f19.ext E23).other W34 (Or.inr (slot_ne (Or.inr wo41) (Or.inr wo39) (by decide) (t := (.array .byte)) (t' := .byte) (by decide) (by decide))))
  have f42 := (((f10.other W14 (Ne.symm ne9.2)).ext E23).other W34 (Ne.symm ne9.2))
  have f43 := (Nat.le_trans K23 (Keep.of_wr W34).1)
  obtain ⟨fs, hr, hrun, hended, -, hW1, hW2, hW3⟩ := X34.leaveW S23 (by rw [e34]; exact f43) (v := none) (fun _ => rfl)
  refine ⟨_, _, pre21 _ ?_, hrun, hended, _, _, rfl, ?_, (by show CHr Z consts_1 s.vm s.heap T34.vm T34.heap; rw [hh, e34]; exact CR37.trans (CHv.at (s := s) (vm0 := T23.vm) X34 hZ hEL CR37.1)), ⟨_, rfl⟩, hW1, hW2, hW3.mono (by decide) (by decide)⟩
  · show Steps p.tables e below (T14.setTop (mkF m 18 #[rv a5_0, rv cb, iv (0 : Int32), iv (0 : Int32), .val .null, .unset] [(.ref a5_0)])) _
    refine st23 _ ?_
    show Steps p.tables e below (T23.setTop (mkF m 20 #[rv a5_0, rv cb, iv (0 : Int32), iv (0 : Int32), .val .null, .unset] [(.ref sa23), (.ref a5_0)])) _
    refine st31 _ ?_
    show Steps p.tables e below (T31.setTop (mkF m 23 #[rv a5_0, rv cb, iv (0 : Int32), iv (0 : Int32), .val .null, .unset] [(.int (0 : Int32)), (.ref a5_0)])) _
    refine st34 _ ?_
    show Steps p.tables e below (T34.setTop (mkF m 26 #[rv a5_0, rv cb, iv (0 : Int32), iv (0 : Int32), .val .null, .unset] [])) _
    exact X34.returnOut hx Bd.returns (hb hby d5_26) hr
  · show Q_rm5 Z _ _ h0 n0 _ T34.heap _
    rw [e34]
    exact ⟨sb4, rfl, N40, (K38), f41, f39, f42⟩
theorem d4_0 : decode jdk_42_method_3_code 0 = .ok (.aload_n 0, 1) := by decide +kernel
theorem d4_1 : decode jdk_42_method_3_code 1 = .ok (.aload_n 1, 1) := by decide +kernel
theorem d4_2 : decode jdk_42_method_3_code 2 = .ok (.iconst 0, 1) := by decide +kernel
theorem d4_3 : decode jdk_42_method_3_code 3 = .ok (.aload_n 1, 1) := by decide +kernel
theorem d4_4 : decode jdk_42_method_3_code 4 = .ok (.arraylength, 1) := by decide +kernel
theorem d4_5 : decode jdk_42_method_3_code 5 = .ok (.aconst_null, 1) := by decide +kernel
theorem pd_11 : parseMethodDescriptor "([CIILjava/lang/Void;)V" = some ⟨[(.array .char), .int, .int, (.object "java/lang/Void")], none⟩ := by decide +kernel
theorem d4_6 : decode jdk_42_method_3_code 6 = .ok (.invokespecial 27, 3) := by decide +kernel
theorem d4_9 : decode jdk_42_method_3_code 9 = .ok (.return_, 1) := by decide +kernel
theorem ef_rm4 (m : MethodId) (x0 : Addr) (x1 : Addr) : entryFrame m #[(.ref x0), (.ref x1)] 2 = mkF m 0 #[rv x0, rv x1] [] := by first | (simp [entryFrame, mkF, argsToLocals, Value.category]; done) | rfl
def Q_rm4 (Z : State) (a4_0 : Addr) (cb : Addr) (h0 : Heap) (n0 : Nat) (v : Option Value) (h : Heap) (L : List Loc) : Prop := ∃ (b : Addr), v = none ∧ Fr n0 L ∧ Keep h0 h [a4_0] ∧ (Fld Z h a4_0 "java/lang/String" "value" "[B" (.ref b)) ∧ (Fld Z h a4_0 "java/lang/String" "coder" "B" (.int (0 : Int32))) ∧ (Av Z h b .byte (0 : Int32) [] (.int (0 : Int32)))
set_option maxRecDepth 65536 in
set_option maxHeartbeats 40000000 in
theorem rm4 (l : Launch) (Z : State) (a0 : Array Value) (hw : ∀ d ∈ tables_1, d.before a0 Z = true) (ws : List Jvm.Cond) (a4_0 : Addr) (cb : Addr) (h0 : Heap) (n0 : Nat) (Z0 : n0 ≤ h0.size) (pf_E_a4_0 : Exa Z h0 a4_0 "java/lang/String") (pf_G_a4_0 : n0 ≤ a4_0) (pf_F_a4_0_value : Fld Z h0 a4_0 "java/lang/String" "value" "[B" .null) (pf_F_a4_0_coder : Fld Z h0 a4_0 "java/lang/String" "coder" "B" (.int (0 : Int32))) (pf_A_cb : Av Z h0 cb .char (0 : Int32) [] (.int (0 : Int32))) :
    MetFree l (⟨"java/lang/String", "<init>", "([C)V"⟩ : MethodName) (head1 (Jvm.Cond.code (⟨"java/lang/String", "<init>", "([C)V"⟩ : MethodName) jdk_42_method_3_code 2 none :: ws) ({ frames := 2, cells := 4, slots := 8, locals := 29 } : Room)) (fun a U => a = #[(.ref a4_0), (.ref cb)] ∧ Z.Warmed39 U.vm ∧ U.heap = h0 ∧ CHv Z consts_1 U.vm h0) (fun _ _ _ _ _ => True) (fun _ U o U' => ∃ v L, o = .returned v ∧ Q_rm4 Z a4_0 cb h0 n0 v U'.heap L ∧ CHr Z consts_1 U.vm U.heap U'.vm U'.heap ∧ ReturnedEndW U o U' L ({ frames := 2, cells := 4, slots := 8, locals := 29 } : Room).cells ({ frames := 2, cells := 4, slots := 8, locals := 29 } : Room).slots) := by
  refine MetFree.of_bodySF (plainFor_of_name pn_java_lang_String) hisR ?_
  intro p e s m args below meth c s₁ Bd hml0 hP hK
  obtain ⟨rfl, hZ, hh, CH0⟩ := hP
  have hx := Bd.exec
  have hby := Bd.bytes
  have hml : c.maxLocals = 2 := hml0
  have hown : s.vm.findClass "java/lang/String" = some m.cls := findClass_of_methodNamed Bd.named
  have hnm := (name_of_methodNamed Bd.named Bd.method).1
  have X0 : Stand p l e ({ frames := 2, cells := 4, slots := 8, locals := 29 } : Room) s m #[(.ref a4_0), (.ref cb)] below meth c s₁ [] 0 0 := Stand.of_body Bd
  have e0 : s₁.heap = h0 := by rw [← hh, Bd.state]; rfl
  have N0 := Fr.nil n0
  have pre0 : ∀ t, Steps p.tables e below (s₁.setTop (mkF m 0 #[rv a4_0, rv cb] [])) t → Steps p.tables e below (s₁.setTop (entryFrame m #[(.ref a4_0), (.ref cb)] 2)) t := fun t k => castTop (ef_rm4 m a4_0 cb) k
  have CR0 := CHr.refl CH0
  have hEL := own_EW hw
  have wo14 := hw _ (List.mem_of_getElem? (i := 14) rfl)
  have wo19 := hw _ (List.mem_of_getElem? (i := 19) rfl)
  have wo20 := hw _ (List.mem_of_getElem? (i := 20) rfl)
  have wo22 := hw _ (List.mem_of_getElem? (i := 22) rfl)
  obtain ⟨kk1, cl1, Ar1, qq1, Sz1, Nn1, Hs1, Gf1⟩ := id pf_A_cb
  have hZ2 := hZ
  have hown2 := hown
  obtain ⟨_, _, ⟨T2, L2, k2, n2⟩, -, X2, Sp2, Gp2, ⟨Lc2, hQ2, l2, y2, z2, cc2⟩, st2⟩ := X0.specialBackS hx (y := MN5) rfl hown (mvT hZ wo19) (mvT hZ wo20) (mvT hZ wo22) (by decide) (backOfSH (s := s) (vm0 := s.vm) (W := 0) (rm5 l Z a0 hw [] a4_0 cb h0 n0 Z0 pf_E_a4_0 pf_G_a4_0 pf_F_a4_0_value pf_F_a4_0_coder) hZ wo22 wo14 (by decide) (by decide) hEL CR0.1) (g := (mkF m 6 #[rv a4_0, rv cb] [.null, (.int (0 : Int32)), (.int (0 : Int32)), (.ref cb), (.ref a4_0)])) rfl (by rw [hml]; rfl) (Steps.refl _) (a := a4_0) (argsL := [(.ref cb), (.int (0 : Int32)), (.int (0 : Int32)), .null]) (rest := []) (lenOf pd_11 rfl) rfl (by show 2 * 0 + _ ≤ _; exact Nat.le_of_eq rfl) (hb hby d4_6) (fun _ _ => ⟨rfl, e0, (by decide : 0 + 4 ≤ _), (by decide : 0 + 8 ≤ _)⟩)
  dsimp only [Pt.U, Pt.locs, Pt.cells, Pt.slots] at X2 l2 y2 z2 st2 hQ2 Sp2 Gp2 cc2
  rw [l2, y2, z2] at X2
  obtain ⟨X2, S2, hZ, hown⟩ := rebS (s := s) (vm0 := s.vm) (Z := Z) (own := "java/lang/String") ((State.WarmedH.refl s).since 0) (Nat.zero_le _) X2 Sp2 Gp2 hZ hown
  obtain ⟨b_2, rfl, N2q, K2q, hq2_0, hq2_1, hq2_2⟩ := hQ2
  have N3 := Fr.app N0 N2q
  have CS4 : CHr Z consts_1 s.vm h0 T2.vm (T2.heap) := cc2
  have CR5 := CR0.trans CS4
  have K6 : Keep h0 T2.heap [a4_0] := (Keep.refl h0 [a4_0]).trans K2q (allS (P := fun x => x ∈ [a4_0] ∨ h0.size ≤ x) (Or.inl (List.mem_of_getElem? (i := 0) rfl)) all0)
  obtain ⟨fs, hr, hrun, hended, -, hW1, hW2, hW3⟩ := X2.leaveW S2 (Nat.le_refl T2.heap.size) (v := none) (fun _ => rfl)
  refine ⟨_, _, pre0 _ ?_, hrun, hended, _, _, rfl, ?_, (by show CHr Z consts_1 s.vm s.heap T2.vm T2.heap; rw [hh]; exact CR5.trans (CHv.at (s := s) (vm0 := T2.vm) X2 hZ hEL CR5.1)), ⟨_, rfl⟩, hW1, hW2, hW3.mono (by decide) (by decide)⟩
  · show Steps p.tables e below (s₁.setTop (mkF m 0 #[rv a4_0, rv cb] [])) _
    refine XS.aloadN X0.here hx rfl (hb hby d4_0) rfl rfl ?_
    show Steps p.tables e below (s₁.setTop (mkF m 1 #[rv a4_0, rv cb] [(.ref a4_0)])) _
    refine XS.aloadN X0.here hx rfl (hb hby d4_1) rfl rfl ?_
    show Steps p.tables e below (s₁.setTop (mkF m 2 #[rv a4_0, rv cb] [(.ref cb), (.ref a4_0)])) _
    refine XS.iconst X0.here hx rfl (hb hby d4_2) ?_
    show Steps p.tables e below (s₁.setTop (mkF m 3 #[rv a4_0, rv cb] [(.int (0 : Int32)), (.ref cb), (.ref a4_0)])) _
    refine XS.aloadN X0.here hx rfl (hb hby d4_3) rfl rfl ?_
    show Steps p.tables e below (s₁.setTop (mkF m 4 #[rv a4_0, rv cb] [(.ref cb), (.int (0 : Int32)), (.ref cb), (.ref a4_0)])) _
    refine X0.arraylength hx (by rw [e0]; exact Ar1.1) (State.isArrayOf_alike hZ2.alike Ar1.2.1) (g := (mkF m 4 #[rv a4_0, rv cb] [(.ref cb), (.int (0 : Int32)), (.ref cb), (.ref a4_0)])) rfl rfl (hb hby d4_4) _ ?_
    rw [len_of Sz1 Nn1]
    show Steps p.tables e below (s₁.setTop (mkF m 5 #[rv a4_0, rv cb] [(.int (0 : Int32)), (.int (0 : Int32)), (.ref cb), (.ref a4_0)])) _
    refine XS.aconstNull X0.here hx rfl (hb hby d4_5) ?_
    show Steps p.tables e below (s₁.setTop (mkF m 6 #[rv a4_0, rv cb] [.null, (.int (0 : Int32)), (.int (0 : Int32)), (.ref cb), (.ref a4_0)])) _
    refine st2.trans ?_
    show Steps p.tables e below (T2.setTop (mkF m 9 #[rv a4_0, rv cb] [])) _
    exact X2.returnOut hx Bd.returns (hb hby d4_9) hr
  · show Q_rm4 Z _ _ h0 n0 _ T2.heap _
    exact ⟨b_2, rfl, N3, (K6), hq2_0, hq2_1, hq2_2⟩
theorem d3_0 : decode method_4_code 0 = .ok (.iload_n 0, 1) := by decide +kernel
theorem d3_1 : decode method_4_code 1 = .ok (.ifCond .ne 14, 3) := by decide +kernel
theorem d3_4 : decode method_4_code 4 = .ok (.new 11, 3) := by decide +kernel
theorem d3_7 : decode method_4_code 7 = .ok (.dup, 1) := by decide +kernel
theorem d3_8 : decode method_4_code 8 = .ok (.iconst 0, 1) := by decide +kernel
theorem d3_9 : decode method_4_code 9 = .ok (.newarray .char, 2) := by decide +kernel
theorem pd_9 : parseMethodDescriptor "([C)V" = some ⟨[(.array .char)], none⟩ := by decide +kernel
theorem d3_11 : decode method_4_code 11 = .ok (.invokespecial 13, 3) := by decide +kernel
theorem d3_14 : decode method_4_code 14 = .ok (.areturn, 1) := by decide +kernel
theorem d3_15 : decode method_4_code 15 = .ok (.iload_n 0, 1) := by decide +kernel
theorem d3_16 : decode method_4_code 16 = .ok (.iconst 1, 1) := by decide +kernel
theorem d3_17 : decode method_4_code 17 = .ok (.if_icmp .ne 19, 3) := by decide +kernel
theorem d3_20 : decode method_4_code 20 = .ok (.new 11, 3) := by decide +kernel
theorem d3_23 : decode method_4_code 23 = .ok (.dup, 1) := by decide +kernel
theorem d3_24 : decode method_4_code 24 = .ok (.iconst 1, 1) := by decide +kernel
theorem d3_25 : decode method_4_code 25 = .ok (.newarray .char, 2) := by decide +kernel
theorem d3_27 : decode method_4_code 27 = .ok (.dup, 1) := by decide +kernel
theorem d3_28 : decode method_4_code 28 = .ok (.iconst 0, 1) := by decide +kernel
theorem d3_29 : decode method_4_code 29 = .ok (.iload_n 1, 1) := by decide +kernel
theorem d3_30 : decode method_4_code 30 = .ok (.i2c, 1) := by decide +kernel
theorem d3_31 : decode method_4_code 31 = .ok (.castore, 1) := by decide +kernel
theorem d3_32 : decode method_4_code 32 = .ok (.invokespecial 13, 3) := by decide +kernel
theorem d3_35 : decode method_4_code 35 = .ok (.areturn, 1) := by decide +kernel
theorem d3_36 : decode method_4_code 36 = .ok (.new 11, 3) := by decide +kernel
theorem d3_39 : decode method_4_code 39 = .ok (.dup, 1) := by decide +kernel
theorem d3_40 : decode method_4_code 40 = .ok (.iconst 2, 1) := by decide +kernel
theorem d3_41 : decode method_4_code 41 = .ok (.newarray .char, 2) := by decide +kernel
theorem d3_43 : decode method_4_code 43 = .ok (.dup, 1) := by decide +kernel
theorem d3_44 : decode method_4_code 44 = .ok (.iconst 0, 1) := by decide +kernel
theorem d3_45 : decode method_4_code 45 = .ok (.iload_n 1, 1) := by decide +kernel
theorem d3_46 : decode method_4_code 46 = .ok (.i2c, 1) := by decide +kernel
theorem d3_47 : decode method_4_code 47 = .ok (.castore, 1) := by decide +kernel
theorem d3_48 : decode method_4_code 48 = .ok (.dup, 1) := by decide +kernel
theorem d3_49 : decode method_4_code 49 = .ok (.iconst 1, 1) := by decide +kernel
theorem d3_50 : decode method_4_code 50 = .ok (.iload_n 2, 1) := by decide +kernel
theorem d3_51 : decode method_4_code 51 = .ok (.i2c, 1) := by decide +kernel
theorem d3_52 : decode method_4_code 52 = .ok (.castore, 1) := by decide +kernel
theorem d3_53 : decode method_4_code 53 = .ok (.invokespecial 13, 3) := by decide +kernel
theorem d3_56 : decode method_4_code 56 = .ok (.areturn, 1) := by decide +kernel
theorem ef_rm3 (m : MethodId) (x0 : Int32) (x1 : Int32) (x2 : Int32) : entryFrame m #[(.int x0), (.int x1), (.int x2)] 3 = mkF m 0 #[iv x0, iv x1, iv x2] [] := by first | (simp [entryFrame, mkF, argsToLocals, Value.category]; done) | rfl
def Q_rm3 (Z : State) (ml : Int32) (mc0 : Int32) (mc1 : Int32) (cs : Int32) (h0 : Heap) (n0 : Nat) (v : Option Value) (h : Heap) (L : List Loc) : Prop := ∃ (r : Addr) (b : Addr), v = some (.ref r) ∧ Fr n0 L ∧ Keep h0 h [] ∧ (h0.size ≤ r) ∧ (Exa Z h r "java/lang/String") ∧ (Fld Z h r "java/lang/String" "value" "[B" (.ref b)) ∧ (Fld Z h r "java/lang/String" "coder" "B" (.int (0 : Int32))) ∧ (Av Z h b .byte ml (own_vs (own_bl ml mc0 mc1)) (.int (0 : Int32)))
set_option maxRecDepth 65536 in
set_option maxHeartbeats 40000000 in
theorem rm3 (l : Launch) (Z : State) (a0 : Array Value) (hw : ∀ d ∈ tables_1, d.before a0 Z = true) (ws : List Jvm.Cond) (ml : Int32) (mc0 : Int32) (mc1 : Int32) (cs : Int32) (h0 : Heap) (n0 : Nat) (Z0 : n0 ≤ h0.size) (pf_O : Old Z n0 h0) (pf_S_java_lang_String_COMPACT_STRINGS : Sta Z Z.heap "java/lang/String" "COMPACT_STRINGS" "Z" (.int cs)) (hcs : ¬ (cs = (0 : Int32))) (hl3 : ml = 0 ∨ ml = 1 ∨ ml = 2) (hr0 : ¬ mc0 < 0 ∧ ¬ (255 : Int32) < mc0) (hr1 : ¬ mc1 < 0 ∧ ¬ (255 : Int32) < mc1) :
    MetFree l (⟨"com/example/topiq/topiq/protocol/MessageQueueEqualsPinLaw", "mk", "(III)Ljava/lang/String;"⟩ : MethodName) (head1 (Jvm.Cond.code (⟨"com/example/topiq/topiq/protocol/MessageQueueEqualsPinLaw", "mk", "(III)Ljava/lang/String;"⟩ : MethodName) method_4_code 3 (some (.object "java/lang/String")) :: ws) ({ frames := 4, cells := 6, slots := 12, locals := 66 } : Room)) (fun a U => a = #[(.int ml), (.int mc0), (.int mc1)] ∧ Z.Warmed39 U.vm ∧ U.heap = h0 ∧ CHv Z consts_1 U.vm h0) (fun _ _ _ _ _ => True) (fun _ U o U' => ∃ v L, o = .returned v ∧ Q_rm3 Z ml mc0 mc1 cs h0 n0 v U'.heap L ∧ CHr Z consts_1 U.vm U.heap U'.vm U'.heap ∧ ReturnedEndW U o U' L ({ frames := 4, cells := 6, slots := 12, locals := 66 } : Room).cells ({ frames := 4, cells := 6, slots := 12, locals := 66 } : Room).slots) := by
  refine MetFree.of_bodySF (plainFor_of_name pn_com_example_topiq_topiq_protocol_MessageQueueEqualsPinLaw) hisR ?_
  intro p e s m args below meth c s₁ Bd hml0 hP hK
  obtain ⟨rfl, hZ, hh, CH0⟩ := hP
  have hx := Bd.exec
  have hby := Bd.bytes
  have hml : c.maxLocals = 3 := hml0
  have hown : s.vm.findClass "com/example/topiq/topiq/protocol/MessageQueueEqualsPinLaw" = some m.cls := findClass_of_methodNamed Bd.named
  have hnm := (name_of_methodNamed Bd.named Bd.method).1
  have X0 : Stand p l e ({ frames := 4, cells := 6, slots := 12, locals := 66 } : Room) s m #[(.int ml), (.int mc0), (.int mc1)] below meth c s₁ [] 0 0 := Stand.of_body Bd
  have e0 : s₁.heap = h0 := by rw [← hh, Bd.state]; rfl
  have N0 := Fr.nil n0
  have pre0 : ∀ t, Steps p.tables e below (s₁.setTop (mkF m 0 #[iv ml, iv mc0, iv mc1] [])) t → Steps p.tables e below (s₁.setTop (entryFrame m #[(.int ml), (.int mc0), (.int mc1)] 3)) t := fun t k => castTop (ef_rm3 m ml mc0 mc1) k
  have CR0 := CHr.refl CH0
  have hEL := own_EW hw
  have wo12 := hw _ (List.mem_of_getElem? (i := 12) rfl)
  have wo13 := hw _ (List.mem_of_getElem? (i := 13) rfl)
  have wo14 := hw _ (List.mem_of_getElem? (i := 14) rfl)
  have wo15 := hw _ (List.mem_of_getElem? (i := 15) rfl)
  have wo16 := hw _ (List.mem_of_getElem? (i := 16) rfl)
  have wo17 := hw _ (List.mem_of_getElem? (i := 17) rfl)
  have wo18 := hw _ (List.mem_of_getElem? (i := 18) rfl)
  have wo39 := hw _ (List.mem_of_getElem? (i := 39) rfl)
  have wo41 := hw _ (List.mem_of_getElem? (i := 41) rfl)
  have pre2 : ∀ t, Steps p.tables e below (s₁.setTop (mkF m 1 #[iv ml, iv mc0, iv mc1] [(.int ml)])) t → Steps p.tables e below (s₁.setTop (entryFrame m #[(.int ml), (.int mc0), (.int mc1)] 3)) t := by
    intro t_ k_
    refine pre0 _ ?_
    show Steps p.tables e below (s₁.setTop (mkF m 0 #[iv ml, iv mc0, iv mc1] [])) _
    refine XS.iloadN X0.here hx rfl (hb hby d3_0) rfl ?_
    exact k_
  by_cases hc1_1 : ml = (0 : Int32)
  · skip
    obtain ⟨T3, h3, X3, e3, E3, A3, D3, -, st3⟩ := newO X0 hx hZ hown wo12 wo13 wo14 e0 (g := (mkF m 4 #[iv ml, iv mc0, iv mc1] [])) rfl (hb hby d3_4) (by decide) (by decide)
    obtain ⟨b3, gg3⟩ : ∃ z, z = h0.size := ⟨_, rfl⟩
    rw [← gg3] at A3 D3 st3
    have g4 : n0 ≤ b3 := Nat.le_trans Z0 (Nat.le_of_eq gg3.symm)
    have bz5 : h0.size ≤ b3 := Nat.le_trans (Keep.refl h0 []).1 (Nat.le_of_eq gg3.symm)
    have CS6 : CHr Z consts_1 s.vm h0 s.vm h3 := (CHr.ext E3 CR0.1)
    have CR7 := CR0.trans CS6
    have K8 : Keep h0 h3 [] := (Keep.refl h0 []).ext E3
    have f9 : Fld Z h3 b3 "java/lang/String" "coder" "B" (.int (0 : Int32)) := D3 (Or.inr wo39) (ty := .byte) (by decide)
    have f10 : Fld Z h3 b3 "java/lang/String" "value" "[B" .null := D3 (Or.inr wo41) (ty := (.array .byte)) (by decide)
    obtain ⟨T11, h11, k11, X11, e11, E11, A11, st11⟩ := newP (aty := .char) X3 hx hZ wo15 e3 (g := (mkF m 9 #[iv ml, iv mc0, iv mc1] [(.int (0 : Int32)), (.ref b3), (.ref b3)])) rfl (hb hby d3_9) rfl (by decide) (cap := 0) (by decide) (by decide) (by decide) (by decide)
    obtain ⟨b11, gg11⟩ : ∃ z, z = h3.size := ⟨_, rfl⟩
    rw [← gg11] at A11 st11
    have ne12 : b3 ≠ b11 := Nat.ne_of_lt (Nat.lt_of_lt_of_le A3.lt (Nat.le_of_eq gg11.symm))
    have f14 := (Nat.le_trans Z0 E3.1)
    have g13 : n0 ≤ b11 := Nat.le_trans f14 (Nat.le_of_eq gg11.symm)
    have bz15 : h0.size ≤ b11 := Nat.le_trans (K8).1 (Nat.le_of_eq gg11.symm)
    have CS17 : CHr Z consts_1 s.vm h3 s.vm h11 := (CHr.ext E11 CR7.1)
    have CR18 := CR7.trans CS17
    have K19 : Keep h0 h11 [] := (K8).ext E11
    have f16 : Av Z h11 b11 .char (0 : Int32) [] (.int (0 : Int32)) := ⟨_, (Arv.new A11 (by decide)).pad (pad_rep [] (.int (0 : Int32)) 0)⟩
    have f20 := (A3.ext E11)
    have f21 := (f10.ext E11)
    have f22 := (f9.ext E11)
    have f24 := (Nat.le_trans f14 E11.1)
    have hZ23 := hZ
    have hown23 := hown
    obtain ⟨_, _, ⟨T23, L23, k23, n23⟩, -, X23, Sp23, Gp23, ⟨Lc23, hQ23, l23, y23, z23, cc23⟩, st23⟩ := X11.specialBackS hx (y := MN4) rfl hown (mvT hZ wo16) (mvT hZ wo17) (mvT hZ wo18) (by decide) (backOfSH (s := s) (vm0 := s.vm) (W := 1) (rm4 l Z a0 hw [] b3 b11 h11 n0 f24 f20 g4 f21 f22 f16) hZ wo18 wo14 (by decide) (by decide) hEL CR18.1) (g := (mkF m 11 #[iv ml, iv mc0, iv mc1] [(.ref b11), (.ref b3), (.ref b3)])) rfl (by rw [hml]; rfl) (Steps.refl _) (a := b3) (argsL := [(.ref b11)]) (rest := [(.ref b3)]) (lenOf pd_9 rfl) rfl (by show 2 * 0 + _ ≤ _; exact Nat.le_of_eq rfl) (hb hby d3_11) (fun _ _ => ⟨rfl, e11, (by decide : 2 + 4 ≤ _), (by decide : 4 + 8 ≤ _)⟩)
    dsimp only [Pt.U, Pt.locs, Pt.cells, Pt.slots] at X23 l23 y23 z23 st23 hQ23 Sp23 Gp23 cc23
    rw [l23, y23, z23] at X23
    obtain ⟨X23, S23, hZ, hown⟩ := rebS (s := s) (vm0 := s.vm) (Z := Z) (own := "com/example/topiq/topiq/protocol/MessageQueueEqualsPinLaw") ((State.WarmedH.refl s).since 0) (Nat.zero_le _) X23 Sp23 Gp23 hZ hown
    obtain ⟨b_23, rfl, N23q, K23q, hq23_0, hq23_1, hq23_2⟩ := hQ23
    have N25 := Fr.app N0 N23q
    have CS26 : CHr Z consts_1 s.vm h11 T23.vm (T23.heap) := cc23
    have CR27 := CR18.trans CS26
    have K28 : Keep h0 T23.heap [] := (K19).trans K23q (allS (P := fun x => x ∈ [] ∨ h0.size ≤ x) (Or.inr bz5) all0)
    have f29 := (f20.keep K23q)
    obtain ⟨fs, hr, hrun, hended, -, hW1, hW2, hW3⟩ := X23.leaveW S23 (Nat.le_refl T23.heap.size) (v := some (.ref b3)) (fun h => by rw [Bd.returns] at h; cases h)
    refine ⟨_, _, pre2 _ ?_, hrun, hended, _, _, rfl, ?_, (by show CHr Z consts_1 s.vm s.heap T23.vm T23.heap; rw [hh]; exact CR27.trans (CHv.at (s := s) (vm0 := T23.vm) X23 hZ hEL CR27.1)), ⟨_, rfl⟩, hW1, hW2, hW3.mono (by decide) (by decide)⟩
    · show Steps p.tables e below (s₁.setTop (mkF m 1 #[iv ml, iv mc0, iv mc1] [(.int ml)])) _
      refine XS.ifNo X0.here hx rfl (hb hby d3_1) rfl ((if0 _ _).trans (teq hc1_1).2) ?_
      show Steps p.tables e below (s₁.setTop (mkF m 4 #[iv ml, iv mc0, iv mc1] [])) _
      refine st3 _ ?_
      show Steps p.tables e below (T3.setTop (mkF m 7 #[iv ml, iv mc0, iv mc1] [(.ref b3)])) _
      refine XS.dup X3.here hx rfl (hb hby d3_7) rfl rfl ?_
      show Steps p.tables e below (T3.setTop (mkF m 8 #[iv ml, iv mc0, iv mc1] [(.ref b3), (.ref b3)])) _
      refine XS.iconst X3.here hx rfl (hb hby d3_8) ?_
      show Steps p.tables e below (T3.setTop (mkF m 9 #[iv ml, iv mc0, iv mc1] [(.int (0 : Int32)), (.ref b3), (.ref b3)])) _
      refine st11 _ ?_
      show Steps p.tables e below (T11.setTop (mkF m 11 #[iv ml, iv mc0, iv mc1] [(.ref b11), (.ref b3), (.ref b3)])) _
      refine st23.trans ?_
      show Steps p.tables e below (T23.setTop (mkF m 14 #[iv ml, iv mc0, iv mc1] [(.ref b3)])) _
      exact retOut X23 hx Bd.returns rfl (Or.inr (Or.inr (Or.inr (Or.inr ⟨rfl, rfl, rfl⟩)))) (hb hby d3_14) hr
    · show Q_rm3 Z _ _ _ _ h0 n0 _ T23.heap _
      exact ⟨b3, b_23, rfl, N25, (K28), bz5, f29, hq23_0, hq23_1, (by rw [(show ml = 0 from hc1_1)]; exact hq23_2)⟩
  · skip
    have pre31 : ∀ t, Steps p.tables e below (s₁.setTop (mkF m 17 #[iv ml, iv mc0, iv mc1] [(.int (1 : Int32)), (.int ml)])) t → Steps p.tables e below (s₁.setTop (entryFrame m #[(.int ml), (.int mc0), (.int mc1)] 3)) t := by
      intro t_ k_
      refine pre2 _ ?_
      show Steps p.tables e below (s₁.setTop (mkF m 1 #[iv ml, iv mc0, iv mc1] [(.int ml)])) _
      refine XS.ifYes X0.here hx rfl (pc0 := 1) (pc' := 15) rfl (hb hby d3_1) rfl ((if0 _ _).trans (feq hc1_1).2) (by decide) (by decide) ?_
      show Steps p.tables e below (s₁.setTop (mkF m 15 #[iv ml, iv mc0, iv mc1] [])) _
      refine XS.iloadN X0.here hx rfl (hb hby d3_15) rfl ?_
      show Steps p.tables e below (s₁.setTop (mkF m 16 #[iv ml, iv mc0, iv mc1] [(.int ml)])) _
      refine XS.iconst X0.here hx rfl (hb hby d3_16) ?_
      exact k_
    by_cases hc17_30 : ml = (1 : Int32)
    · skip
      obtain ⟨T32, h32, X32, e32, E32, A32, D32, -, st32⟩ := newO X0 hx hZ hown wo12 wo13 wo14 e0 (g := (mkF m 20 #[iv ml, iv mc0, iv mc1] [])) rfl (hb hby d3_20) (by decide) (by decide)
      obtain ⟨b32, gg32⟩ : ∃ z, z = h0.size := ⟨_, rfl⟩
      rw [← gg32] at A32 D32 st32
      have g33 : n0 ≤ b32 := Nat.le_trans Z0 (Nat.le_of_eq gg32.symm)
      have bz34 : h0.size ≤ b32 := Nat.le_trans (Keep.refl h0 []).1 (Nat.le_of_eq gg32.symm)
      have CS35 : CHr Z consts_1 s.vm h0 s.vm h32 := (CHr.ext E32 CR0.1)
      have CR36 := CR0.trans CS35
      have K37 : Keep h0 h32 [] := (Keep.refl h0 []).ext E32
      have f38 : Fld Z h32 b32 "java/lang/String" "coder" "B" (.int (0 : Int32)) := D32 (Or.inr wo39) (ty := .byte) (by decide)
      have f39 : Fld Z h32 b32 "java/lang/String" "value" "[B" .null := D32 (Or.inr wo41) (ty := (.array .byte)) (by decide)
      obtain ⟨T40, h40, k40, X40, e40, E40, A40, st40⟩ := newP (aty := .char) X32 hx hZ wo15 e32 (g := (mkF m 25 #[iv ml, iv mc0, iv mc1] [(.int (1 : Int32)), (.ref b32), (.ref b32)])) rfl (hb hby d3_25) rfl (by decide) (cap := 1) (by decide) (by decide) (by decide) (by decide)
      obtain ⟨b40, gg40⟩ : ∃ z, z = h32.size := ⟨_, rfl⟩
      rw [← gg40] at A40 st40
      have ne41 : b32 ≠ b40 := Nat.ne_of_lt (Nat.lt_of_lt_of_le A32.lt (Nat.le_of_eq gg40.symm))
      have f43 := (Nat.le_trans Z0 E32.1)
      have g42 : n0 ≤ b40 := Nat.le_trans f43 (Nat.le_of_eq gg40.symm)
      have bz44 : h0.size ≤ b40 := Nat.le_trans (K37).1 (Nat.le_of_eq gg40.symm)
      have CS46 : CHr Z consts_1 s.vm h32 s.vm h40 := (CHr.ext E40 CR36.1)
      have CR47 := CR36.trans CS46
      have K48 : Keep h0 h40 [] := (K37).ext E40
      have f45 : Av Z h40 b40 .char (1 : Int32) [(.int (0 : Int32))] (.int (0 : Int32)) := ⟨_, (Arv.new A40 (by decide)).pad (pad_rep [] (.int (0 : Int32)) 1)⟩
      obtain ⟨kk49, cl49, Ar49, qq49, Sz49, Nn49, Hs49, Gf49⟩ := id f45
      have hin50 : ¬ ((0 : Int32) < 0 ∨ cl49.slots.size ≤ ((0 : Int32)).toNatClampNeg) := inb_of Sz49 ⟨by decide, by decide⟩
      obtain ⟨T51, h51, X51, e51, W51, st51⟩ := stC X40 hx hZ e40 Ar49 (j := (0 : Int32)) hin50 (g := (mkF m 31 #[iv ml, iv mc0, iv mc1] [(.int (mc0.toUInt32.toUInt16.toUInt32.toInt32)), (.int (0 : Int32)), (.ref b40), (.ref b40), (.ref b32), (.ref b32)])) rfl rfl (hb hby d3_31)
      have CS52 : CHr Z consts_1 s.vm h40 s.vm h51 := (CHr.wr W51 (own_safeAv hZ.alike f45 (by decide)) CR47.1)
      have CR53 := CR47.trans CS52
      have K54 : Keep h0 h51 [] := (K48).wr W51 (Or.inr bz44)
      have f55 : Av Z h51 b40 .char (1 : Int32) [(.int (nar .char (mc0.toUInt32.toUInt16.toUInt32.toInt32)))] (.int (0 : Int32)) := ⟨_, Arv.set Ar49 qq49 Sz49 Nn49 Hs49 Gf49 (by first | rfl | exact fits_nar_char _) W51 0 rfl (Nat.le_of_ble_eq_true rfl)⟩
      have N56 := Fr.snoc X51 N0 g42
      have q57 : (nar .char (mc0.toUInt32.toUInt16.toUInt32.toInt32)) = mc0 := own_i2cn hr0
      have f58 : Av Z h51 b40 .char (1 : Int32) [(.int mc0)] (.int (0 : Int32)) := by rw [← q57]; exact f55
      obtain ⟨kc59, Vc59⟩ := id f58
      have hws59 : ∀ d ∈ StrChars.Road.words, d.before a0 Z = true := fun d hd => hw d ((by decide +kernel : ∀ d ∈ StrChars.Road.words, d ∈ tables_1) d hd)
      have hp59 : ∀ c ∈ ([mc0] : List Int32), ¬ c < 0 ∧ ¬ (255 : Int32) < c := by
        intro c hc
        simp only [List.mem_cons, List.not_mem_nil, or_false] at hc
        subst hc
        exact hr0
      have f60 := (((pf_O.ext E32).ext E40).wr W51 g42)
      have f61 := (Nat.le_trans (Nat.le_trans f43 E40.1) (Keep.of_wr W51).1)
      have f62 := ((A32.ext E40).wr W51)
      have f63 := ((f39.ext E40).other W51 (Or.inl ne41))
      have f64 := ((f38.ext E40).other W51 (Or.inl ne41))
      obtain ⟨_, _, ⟨T59, L59, k59, n59⟩, -, X59, ⟨Lc59, hQ59, l59, y59, z59⟩, st59⟩ := X51.specialBack hx (y := MN4) rfl hown (mvT hZ wo16) (mvT hZ wo17) (mvT hZ wo18) (by decide) (StrChars.Road.backV (W := 1) hZ hws59 (kI := 4) wo13 (cs := ([mc0] : List Int32)) (bs := (([mc0] : List Int32)).map (fun c => c.toInt8.toInt32)) (n := 1) g33 f61 f62 f63 f64 Vc59 (pf_S_java_lang_String_COMPACT_STRINGS.ext f60.2) hcs rfl rfl (by decide) (by decide) hp59 rfl (by decide) (by decide)) (g := (mkF m 32 #[iv ml, iv mc0, iv mc1] [(.ref b40), (.ref b32), (.ref b32)])) rfl (by rw [hml]; rfl) (Steps.refl _) (a := b32) (argsL := [(.ref b40)]) (rest := [(.ref b32)]) (lenOf pd_9 rfl) rfl (by show 2 * 0 + _ ≤ _; exact Nat.le_of_eq rfl) (hb hby d3_32) (fun _ _ => ⟨rfl, e51, (by decide : 2 + 1 ≤ _), (by decide : 5 + 1 ≤ _)⟩)
      dsimp only [Pt.U, Pt.locs, Pt.cells, Pt.slots] at X59 l59 y59 z59 st59 hQ59
      rw [l59, y59, z59] at X59
      obtain ⟨rfl, N59q, K59q, hE59, hC59, t59, kb59, gt59, bt59, nt59, hV59, hA59⟩ := hQ59
      have N65 := Fr.app N56 N59q
      have ne66 : b32 ≠ t59 := Nat.ne_of_lt (Nat.lt_of_lt_of_le f62.lt bt59)
      have ne67 : b40 ≠ t59 := Nat.ne_of_lt (Nat.lt_of_lt_of_le f58.lt bt59)
      have g68 : n0 ≤ t59 := Nat.le_trans f61 bt59
      have bz69 : h0.size ≤ t59 := Nat.le_trans (K54).1 bt59
      have CS70 : CHr Z consts_1 s.vm h51 s.vm (T59.heap) := (CHr.keep K59q (allS (P := fun x => Safe Z consts_1 s.vm _ x) (own_safeNull hZ.alike f62 f63) all0) CR53.1)
      have CR71 := CR53.trans CS70
      have K72 : Keep h0 T59.heap [] := (K54).trans K59q (allS (P := fun x => x ∈ [] ∨ h0.size ≤ x) (Or.inr bz34) all0)
      have f73 : Av Z T59.heap t59 .byte (1 : Int32) [(.int (mc0.toInt8.toInt32))] (.int (0 : Int32)) := ⟨kb59, hA59⟩
      obtain ⟨fs, hr, hrun, hended, hW, hsame⟩ := X59.leave (v := some (.ref b32)) (fun h => by rw [Bd.returns] at h; cases h)
      obtain ⟨-, hW1, hW2, hW3⟩ := ReturnedEndW.of_narrow (o := Outcome.returned (some (.ref b32))) ⟨_, rfl⟩ hW hsame
      refine ⟨_, _, pre31 _ ?_, hrun, hended, _, _, rfl, ?_, (by show CHr Z consts_1 s.vm s.heap T59.vm T59.heap; rw [hh]; exact CR71.trans (CHv.at (s := s) (vm0 := s.vm) X59 hZ hEL CR71.1)), ⟨_, rfl⟩, hW1, hW2, hW3.mono (by decide) (by decide)⟩
      · show Steps p.tables e below (s₁.setTop (mkF m 17 #[iv ml, iv mc0, iv mc1] [(.int (1 : Int32)), (.int ml)])) _
        refine XS.icmpNo X0.here hx rfl (hb hby d3_17) rfl (teq hc17_30).2 ?_
        show Steps p.tables e below (s₁.setTop (mkF m 20 #[iv ml, iv mc0, iv mc1] [])) _
        refine st32 _ ?_
        show Steps p.tables e below (T32.setTop (mkF m 23 #[iv ml, iv mc0, iv mc1] [(.ref b32)])) _
        refine XS.dup X32.here hx rfl (hb hby d3_23) rfl rfl ?_
        show Steps p.tables e below (T32.setTop (mkF m 24 #[iv ml, iv mc0, iv mc1] [(.ref b32), (.ref b32)])) _
        refine XS.iconst X32.here hx rfl (hb hby d3_24) ?_
        show Steps p.tables e below (T32.setTop (mkF m 25 #[iv ml, iv mc0, iv mc1] [(.int (1 : Int32)), (.ref b32), (.ref b32)])) _
        refine st40 _ ?_
        show Steps p.tables e below (T40.setTop (mkF m 27 #[iv ml, iv mc0, iv mc1] [(.ref b40), (.ref b32), (.ref b32)])) _
        refine XS.dup X40.here hx rfl (hb hby d3_27) rfl rfl ?_
        show Steps p.tables e below (T40.setTop (mkF m 28 #[iv ml, iv mc0, iv mc1] [(.ref b40), (.ref b40), (.ref b32), (.ref b32)])) _
        refine XS.iconst X40.here hx rfl (hb hby d3_28) ?_
        show Steps p.tables e below (T40.setTop (mkF m 29 #[iv ml, iv mc0, iv mc1] [(.int (0 : Int32)), (.ref b40), (.ref b40), (.ref b32), (.ref b32)])) _
        refine XS.iloadN X40.here hx rfl (hb hby d3_29) rfl ?_
        show Steps p.tables e below (T40.setTop (mkF m 30 #[iv ml, iv mc0, iv mc1] [(.int mc0), (.int (0 : Int32)), (.ref b40), (.ref b40), (.ref b32), (.ref b32)])) _
        refine XS.i2c X40.here hx rfl (hb hby d3_30) rfl ?_
        show Steps p.tables e below (T40.setTop (mkF m 31 #[iv ml, iv mc0, iv mc1] [(.int (mc0.toUInt32.toUInt16.toUInt32.toInt32)), (.int (0 : Int32)), (.ref b40), (.ref b40), (.ref b32), (.ref b32)])) _
        refine st51 _ ?_
        show Steps p.tables e below (T51.setTop (mkF m 32 #[iv ml, iv mc0, iv mc1] [(.ref b40), (.ref b32), (.ref b32)])) _
        show Steps p.tables e below (T51.setTop (mkF m 32 #[iv ml, iv mc0, iv mc1] [(.ref b40), (.ref b32), (.ref b32)])) _
        refine st59.trans ?_
        show Steps p.tables e below (T59.setTop (mkF m 35 #[iv ml, iv mc0, iv mc1] [(.ref b32)])) _
        exact retOut X59 hx Bd.returns rfl (Or.inr (Or.inr (Or.inr (Or.inr ⟨rfl, rfl, rfl⟩)))) (hb hby d3_35) hr
      · show Q_rm3 Z _ _ _ _ h0 n0 _ T59.heap _
        exact ⟨b32, t59, rfl, N65, (K72), bz34, hE59, hV59, hC59, (by rw [(show ml = 1 from hc17_30)]; exact f73)⟩
    · skip
      obtain ⟨T74, h74, X74, e74, E74, A74, D74, -, st74⟩ := newO X0 hx hZ hown wo12 wo13 wo14 e0 (g := (mkF m 36 #[iv ml, iv mc0, iv mc1] [])) rfl (hb hby d3_36) (by decide) (by decide)
      obtain ⟨b74, gg74⟩ : ∃ z, z = h0.size := ⟨_, rfl⟩
      rw [← gg74] at A74 D74 st74
      have g75 : n0 ≤ b74 := Nat.le_trans Z0 (Nat.le_of_eq gg74.symm)
      have bz76 : h0.size ≤ b74 := Nat.le_trans (Keep.refl h0 []).1 (Nat.le_of_eq gg74.symm)
      have CS77 : CHr Z consts_1 s.vm h0 s.vm h74 := (CHr.ext E74 CR0.1)
      have CR78 := CR0.trans CS77
      have K79 : Keep h0 h74 [] := (Keep.refl h0 []).ext E74
      have f80 : Fld Z h74 b74 "java/lang/String" "coder" "B" (.int (0 : Int32)) := D74 (Or.inr wo39) (ty := .byte) (by decide)
      have f81 : Fld Z h74 b74 "java/lang/String" "value" "[B" .null := D74 (Or.inr wo41) (ty := (.array .byte)) (by decide)
      obtain ⟨T82, h82, k82, X82, e82, E82, A82, st82⟩ := newP (aty := .char) X74 hx hZ wo15 e74 (g := (mkF m 41 #[iv ml, iv mc0, iv mc1] [(.int (2 : Int32)), (.ref b74), (.ref b74)])) rfl (hb hby d3_41) rfl (by decide) (cap := 2) (by decide) (by decide) (by decide) (by decide)
      obtain ⟨b82, gg82⟩ : ∃ z, z = h74.size := ⟨_, rfl⟩
      rw [← gg82] at A82 st82
      have ne83 : b74 ≠ b82 := Nat.ne_of_lt (Nat.lt_of_lt_of_le A74.lt (Nat.le_of_eq gg82.symm))
      have f85 := (Nat.le_trans Z0 E74.1)
      have g84 : n0 ≤ b82 := Nat.le_trans f85 (Nat.le_of_eq gg82.symm)
      have bz86 : h0.size ≤ b82 := Nat.le_trans (K79).1 (Nat.le_of_eq gg82.symm)
      have CS88 : CHr Z consts_1 s.vm h74 s.vm h82 := (CHr.ext E82 CR78.1)
      have CR89 := CR78.trans CS88
      have K90 : Keep h0 h82 [] := (K79).ext E82
      have f87 : Av Z h82 b82 .char (2 : Int32) [(.int (0 : Int32)), (.int (0 : Int32))] (.int (0 : Int32)) := ⟨_, (Arv.new A82 (by decide)).pad (pad_rep [] (.int (0 : Int32)) 2)⟩
      obtain ⟨kk91, cl91, Ar91, qq91, Sz91, Nn91, Hs91, Gf91⟩ := id f87
      have hin92 : ¬ ((0 : Int32) < 0 ∨ cl91.slots.size ≤ ((0 : Int32)).toNatClampNeg) := inb_of Sz91 ⟨by decide, by decide⟩
      obtain ⟨T93, h93, X93, e93, W93, st93⟩ := stC X82 hx hZ e82 Ar91 (j := (0 : Int32)) hin92 (g := (mkF m 47 #[iv ml, iv mc0, iv mc1] [(.int (mc0.toUInt32.toUInt16.toUInt32.toInt32)), (.int (0 : Int32)), (.ref b82), (.ref b82), (.ref b74), (.ref b74)])) rfl rfl (hb hby d3_47)
      have CS94 : CHr Z consts_1 s.vm h82 s.vm h93 := (CHr.wr W93 (own_safeAv hZ.alike f87 (by decide)) CR89.1)
      have CR95 := CR89.trans CS94
      have K96 : Keep h0 h93 [] := (K90).wr W93 (Or.inr bz86)
      have f97 : Av Z h93 b82 .char (2 : Int32) [(.int (nar .char (mc0.toUInt32.toUInt16.toUInt32.toInt32))), (.int (0 : Int32))] (.int (0 : Int32)) := ⟨_, Arv.set Ar91 qq91 Sz91 Nn91 Hs91 Gf91 (by first | rfl | exact fits_nar_char _) W93 0 rfl (Nat.le_of_ble_eq_true rfl)⟩
      have N98 := Fr.snoc X93 N0 g84
      obtain ⟨kk99, cl99, Ar99, qq99, Sz99, Nn99, Hs99, Gf99⟩ := id f97
      have hin100 : ¬ ((1 : Int32) < 0 ∨ cl99.slots.size ≤ ((1 : Int32)).toNatClampNeg) := inb_of Sz99 ⟨by decide, by decide⟩
      obtain ⟨T101, h101, X101, e101, W101, st101⟩ := stC X93 hx hZ e93 Ar99 (j := (1 : Int32)) hin100 (g := (mkF m 52 #[iv ml, iv mc0, iv mc1] [(.int (mc1.toUInt32.toUInt16.toUInt32.toInt32)), (.int (1 : Int32)), (.ref b82), (.ref b82), (.ref b74), (.ref b74)])) rfl rfl (hb hby d3_52)
      have CS102 : CHr Z consts_1 s.vm h93 s.vm h101 := (CHr.wr W101 (own_safeAv hZ.alike f97 (by decide)) CR95.1)
      have CR103 := CR95.trans CS102
      have K104 : Keep h0 h101 [] := (K96).wr W101 (Or.inr bz86)
      have f105 : Av Z h101 b82 .char (2 : Int32) [(.int (nar .char (mc0.toUInt32.toUInt16.toUInt32.toInt32))), (.int (nar .char (mc1.toUInt32.toUInt16.toUInt32.toInt32)))] (.int (0 : Int32)) := ⟨_, Arv.set Ar99 qq99 Sz99 Nn99 Hs99 Gf99 (by first | rfl | exact fits_nar_char _) W101 1 rfl (Nat.le_of_ble_eq_true rfl)⟩
      have N106 := Fr.snoc X101 N98 g84
      have q107 : (nar .char (mc0.toUInt32.toUInt16.toUInt32.toInt32)) = mc0 := own_i2cn hr0
      have f108 : Av Z h101 b82 .char (2 : Int32) [(.int mc0), (.int (nar .char (mc1.toUInt32.toUInt16.toUInt32.toInt32)))] (.int (0 : Int32)) := by rw [← q107]; exact f105
      have q109 : (nar .char (mc1.toUInt32.toUInt16.toUInt32.toInt32)) = mc1 := own_i2cn hr1
      have f110 : Av Z h101 b82 .char (2 : Int32) [(.int mc0), (.int mc1)] (.int (0 : Int32)) := by rw [← q109]; exact f108
      obtain ⟨kc111, Vc111⟩ := id f110
      have hws111 : ∀ d ∈ StrChars.Road.words, d.before a0 Z = true := fun d hd => hw d ((by decide +kernel : ∀ d ∈ StrChars.Road.words, d ∈ tables_1) d hd)
      have hp111 : ∀ c ∈ ([mc0, mc1] : List Int32), ¬ c < 0 ∧ ¬ (255 : Int32) < c := by
        intro c hc
        simp only [List.mem_cons, List.not_mem_nil, or_false] at hc
        rcases hc with rfl | rfl
        · exact hr0
        · exact hr1
      have f112 := ((((pf_O.ext E74).ext E82).wr W93 g84).wr W101 g84)
      have f113 := (Nat.le_trans (Nat.le_trans (Nat.le_trans f85 E82.1) (Keep.of_wr W93).1) (Keep.of_wr W101).1)
      have f114 := (((A74.ext E82).wr W93).wr W101)
      have f115 := (((f81.ext E82).other W93 (Or.inl ne83)).other W101 (Or.inl ne83))
      have f116 := (((f80.ext E82).other W93 (Or.inl ne83)).other W101 (Or.inl ne83))
      obtain ⟨_, _, ⟨T111, L111, k111, n111⟩, -, X111, ⟨Lc111, hQ111, l111, y111, z111⟩, st111⟩ := X101.specialBack hx (y := MN4) rfl hown (mvT hZ wo16) (mvT hZ wo17) (mvT hZ wo18) (by decide) (StrChars.Road.backV (W := 1) hZ hws111 (kI := 4) wo13 (cs := ([mc0, mc1] : List Int32)) (bs := (([mc0, mc1] : List Int32)).map (fun c => c.toInt8.toInt32)) (n := 2) g75 f113 f114 f115 f116 Vc111 (pf_S_java_lang_String_COMPACT_STRINGS.ext f112.2) hcs rfl rfl (by decide) (by decide) hp111 rfl (by decide) (by decide)) (g := (mkF m 53 #[iv ml, iv mc0, iv mc1] [(.ref b82), (.ref b74), (.ref b74)])) rfl (by rw [hml]; rfl) (Steps.refl _) (a := b74) (argsL := [(.ref b82)]) (rest := [(.ref b74)]) (lenOf pd_9 rfl) rfl (by show 2 * 0 + _ ≤ _; exact Nat.le_of_eq rfl) (hb hby d3_53) (fun _ _ => ⟨rfl, e101, (by decide : 2 + 1 ≤ _), (by decide : 6 + 2 ≤ _)⟩)
      dsimp only [Pt.U, Pt.locs, Pt.cells, Pt.slots] at X111 l111 y111 z111 st111 hQ111
      rw [l111, y111, z111] at X111
      obtain ⟨rfl, N111q, K111q, hE111, hC111, t111, kb111, gt111, bt111, nt111, hV111, hA111⟩ := hQ111
      have N117 := Fr.app N106 N111q
      have ne118 : b74 ≠ t111 := Nat.ne_of_lt (Nat.lt_of_lt_of_le f114.lt bt111)
      have ne119 : b82 ≠ t111 := Nat.ne_of_lt (Nat.lt_of_lt_of_le f110.lt bt111)
      have g120 : n0 ≤ t111 := Nat.le_trans f113 bt111
      have bz121 : h0.size ≤ t111 := Nat.le_trans (K104).1 bt111
      have CS122 : CHr Z consts_1 s.vm h101 s.vm (T111.heap) := (CHr.keep K111q (allS (P := fun x => Safe Z consts_1 s.vm _ x) (own_safeNull hZ.alike f114 f115) all0) CR103.1)
      have CR123 := CR103.trans CS122
      have K124 : Keep h0 T111.heap [] := (K104).trans K111q (allS (P := fun x => x ∈ [] ∨ h0.size ≤ x) (Or.inr bz76) all0)
      have f125 : Av Z T111.heap t111 .byte (2 : Int32) [(.int (mc0.toInt8.toInt32)), (.int (mc1.toInt8.toInt32))] (.int (0 : Int32)) := ⟨kb111, hA111⟩
      obtain ⟨fs, hr, hrun, hended, hW, hsame⟩ := X111.leave (v := some (.ref b74)) (fun h => by rw [Bd.returns] at h; cases h)
      obtain ⟨-, hW1, hW2, hW3⟩ := ReturnedEndW.of_narrow (o := Outcome.returned (some (.ref b74))) ⟨_, rfl⟩ hW hsame
      refine ⟨_, _, pre31 _ ?_, hrun, hended, _, _, rfl, ?_, (by show CHr Z consts_1 s.vm s.heap T111.vm T111.heap; rw [hh]; exact CR123.trans (CHv.at (s := s) (vm0 := s.vm) X111 hZ hEL CR123.1)), ⟨_, rfl⟩, hW1, hW2, hW3.mono (by decide) (by decide)⟩
      · show Steps p.tables e below (s₁.setTop (mkF m 17 #[iv ml, iv mc0, iv mc1] [(.int (1 : Int32)), (.int ml)])) _
        refine XS.icmpYes X0.here hx rfl (pc0 := 17) (pc' := 36) rfl (hb hby d3_17) rfl (feq hc17_30).2 (by decide) (by decide) ?_
        show Steps p.tables e below (s₁.setTop (mkF m 36 #[iv ml, iv mc0, iv mc1] [])) _
        refine st74 _ ?_
        show Steps p.tables e below (T74.setTop (mkF m 39 #[iv ml, iv mc0, iv mc1] [(.ref b74)])) _
        refine XS.dup X74.here hx rfl (hb hby d3_39) rfl rfl ?_
        show Steps p.tables e below (T74.setTop (mkF m 40 #[iv ml, iv mc0, iv mc1] [(.ref b74), (.ref b74)])) _
        refine XS.iconst X74.here hx rfl (hb hby d3_40) ?_
        show Steps p.tables e below (T74.setTop (mkF m 41 #[iv ml, iv mc0, iv mc1] [(.int (2 : Int32)), (.ref b74), (.ref b74)])) _
        refine st82 _ ?_
        show Steps p.tables e below (T82.setTop (mkF m 43 #[iv ml, iv mc0, iv mc1] [(.ref b82), (.ref b74), (.ref b74)])) _
        refine XS.dup X82.here hx rfl (hb hby d3_43) rfl rfl ?_
        show Steps p.tables e below (T82.setTop (mkF m 44 #[iv ml, iv mc0, iv mc1] [(.ref b82), (.ref b82), (.ref b74), (.ref b74)])) _
        refine XS.iconst X82.here hx rfl (hb hby d3_44) ?_
        show Steps p.tables e below (T82.setTop (mkF m 45 #[iv ml, iv mc0, iv mc1] [(.int (0 : Int32)), (.ref b82), (.ref b82), (.ref b74), (.ref b74)])) _
        refine XS.iloadN X82.here hx rfl (hb hby d3_45) rfl ?_
        show Steps p.tables e below (T82.setTop (mkF m 46 #[iv ml, iv mc0, iv mc1] [(.int mc0), (.int (0 : Int32)), (.ref b82), (.ref b82), (.ref b74), (.ref b74)])) _
        refine XS.i2c X82.here hx rfl (hb hby d3_46) rfl ?_
        show Steps p.tables e below (T82.setTop (mkF m 47 #[iv ml, iv mc0, iv mc1] [(.int (mc0.toUInt32.toUInt16.toUInt32.toInt32)), (.int (0 : Int32)), (.ref b82), (.ref b82), (.ref b74), (.ref b74)])) _
        refine st93 _ ?_
        show Steps p.tables e below (T93.setTop (mkF m 48 #[iv ml, iv mc0, iv mc1] [(.ref b82), (.ref b74), (.ref b74)])) _
        refine XS.dup X93.here hx rfl (hb hby d3_48) rfl rfl ?_
        show Steps p.tables e below (T93.setTop (mkF m 49 #[iv ml, iv mc0, iv mc1] [(.ref b82), (.ref b82), (.ref b74), (.ref b74)])) _
        refine XS.iconst X93.here hx rfl (hb hby d3_49) ?_
        show Steps p.tables e below (T93.setTop (mkF m 50 #[iv ml, iv mc0, iv mc1] [(.int (1 : Int32)), (.ref b82), (.ref b82), (.ref b74), (.ref b74)])) _
        refine XS.iloadN X93.here hx rfl (hb hby d3_50) rfl ?_
        show Steps p.tables e below (T93.setTop (mkF m 51 #[iv ml, iv mc0, iv mc1] [(.int mc1), (.int (1 : Int32)), (.ref b82), (.ref b82), (.ref b74), (.ref b74)])) _
        refine XS.i2c X93.here hx rfl (hb hby d3_51) rfl ?_
        show Steps p.tables e below (T93.setTop (mkF m 52 #[iv ml, iv mc0, iv mc1] [(.int (mc1.toUInt32.toUInt16.toUInt32.toInt32)), (.int (1 : Int32)), (.ref b82), (.ref b82), (.ref b74), (.ref b74)])) _
        refine st101 _ ?_
        show Steps p.tables e below (T101.setTop (mkF m 53 #[iv ml, iv mc0, iv mc1] [(.ref b82), (.ref b74), (.ref b74)])) _
        show Steps p.tables e below (T101.setTop (mkF m 53 #[iv ml, iv mc0, iv mc1] [(.ref b82), (.ref b74), (.ref b74)])) _
        show Steps p.tables e below (T101.setTop (mkF m 53 #[iv ml, iv mc0, iv mc1] [(.ref b82), (.ref b74), (.ref b74)])) _
        refine st111.trans ?_
        show Steps p.tables e below (T111.setTop (mkF m 56 #[iv ml, iv mc0, iv mc1] [(.ref b74)])) _
        exact retOut X111 hx Bd.returns rfl (Or.inr (Or.inr (Or.inr (Or.inr ⟨rfl, rfl, rfl⟩)))) (hb hby d3_56) hr
      · show Q_rm3 Z _ _ _ _ h0 n0 _ T111.heap _
        exact ⟨b74, t111, rfl, N117, (K124), bz76, hE111, hV111, hC111, (by rw [(show ml = 2 from (hl3.resolve_left hc1_1).resolve_left hc17_30)]; exact f125)⟩
theorem d10_0 : decode prog_40_method_1_code 0 = .ok (.aload_n 0, 1) := by decide +kernel
theorem d10_1 : decode prog_40_method_1_code 1 = .ok (.invokespecial 1, 3) := by decide +kernel
theorem d10_4 : decode prog_40_method_1_code 4 = .ok (.aload_n 0, 1) := by decide +kernel
theorem d10_5 : decode prog_40_method_1_code 5 = .ok (.aload_n 1, 1) := by decide +kernel
theorem d10_6 : decode prog_40_method_1_code 6 = .ok (.putfield 7, 3) := by decide +kernel
theorem d10_9 : decode prog_40_method_1_code 9 = .ok (.aload_n 0, 1) := by decide +kernel
theorem d10_10 : decode prog_40_method_1_code 10 = .ok (.aload_n 2, 1) := by decide +kernel
theorem d10_11 : decode prog_40_method_1_code 11 = .ok (.putfield 13, 3) := by decide +kernel
theorem d10_14 : decode prog_40_method_1_code 14 = .ok (.aload_n 0, 1) := by decide +kernel
theorem d10_15 : decode prog_40_method_1_code 15 = .ok (.iload_n 3, 1) := by decide +kernel
theorem d10_16 : decode prog_40_method_1_code 16 = .ok (.putfield 16, 3) := by decide +kernel
theorem d10_19 : decode prog_40_method_1_code 19 = .ok (.return_, 1) := by decide +kernel
theorem pn_com_example_topiq_topiq_protocol_MessageQueue : plainName "com/example/topiq/topiq/protocol/MessageQueue" = true := by first | (simp [plainName, overriddenIn]; done) | decide +kernel
theorem ef_rm10 (m : MethodId) (x0 : Addr) (x1 : Addr) (x2 : Addr) (x3 : Int32) : entryFrame m #[(.ref x0), (.ref x1), (.ref x2), (.int x3)] 4 = mkF m 0 #[rv x0, rv x1, rv x2, iv x3] [] := by first | (simp [entryFrame, mkF, argsToLocals, Value.category]; done) | rfl
def Q_rm10 (Z : State) (a10_0 : Addr) (tp : Addr) (bk : Addr) (qi : Int32) (h0 : Heap) (n0 : Nat) (v : Option Value) (h : Heap) (L : List Loc) : Prop := v = none ∧ Fr n0 L ∧ Keep h0 h [a10_0] ∧ (Fld Z h a10_0 "com/example/topiq/topiq/protocol/MessageQueue" "topic" "Ljava/lang/String;" (.ref tp)) ∧ (Fld Z h a10_0 "com/example/topiq/topiq/protocol/MessageQueue" "brokerName" "Ljava/lang/String;" (.ref bk)) ∧ (Fld Z h a10_0 "com/example/topiq/topiq/protocol/MessageQueue" "queueId" "I" (.int qi))
set_option maxRecDepth 65536 in
set_option maxHeartbeats 40000000 in
theorem rm10 (l : Launch) (Z : State) (a0 : Array Value) (hw : ∀ d ∈ tables_1, d.before a0 Z = true) (ws : List Jvm.Cond) (a10_0 : Addr) (tp : Addr) (bk : Addr) (qi : Int32) (h0 : Heap) (n0 : Nat) (Z0 : n0 ≤ h0.size) (pf_E_a10_0 : Exa Z h0 a10_0 "com/example/topiq/topiq/protocol/MessageQueue") (pf_G_a10_0 : n0 ≤ a10_0) (pf_F_a10_0_topic : Fld Z h0 a10_0 "com/example/topiq/topiq/protocol/MessageQueue" "topic" "Ljava/lang/String;" .null) (pf_F_a10_0_brokerName : Fld Z h0 a10_0 "com/example/topiq/topiq/protocol/MessageQueue" "brokerName" "Ljava/lang/String;" .null) (pf_F_a10_0_queueId : Fld Z h0 a10_0 "com/example/topiq/topiq/protocol/MessageQueue" "queueId" "I" (.int (0 : Int32))) :
    MetFree l (⟨"com/example/topiq/topiq/protocol/MessageQueue", "<init>", "(Ljava/lang/String;Ljava/lang/String;I)V"⟩ : MethodName) (head1 (Jvm.Cond.code (⟨"com/example/topiq/topiq/protocol/MessageQueue", "<init>", "(Ljava/lang/String;Ljava/lang/String;I)V"⟩ : MethodName) prog_40_method_1_code 4 none :: ws) ({ frames := 1, cells := 0, slots := 0, locals := 12 } : Room)) (fun a U => a = #[(.ref a10_0), (.ref tp), (.ref bk), (.int qi)] ∧ Z.Warmed39 U.vm ∧ U.heap = h0) (fun _ _ _ _ _ => True) (fun _ U o U' => ∃ v L, o = .returned v ∧ Q_rm10 Z a10_0 tp bk qi h0 n0 v U'.heap L ∧ FrameEnd U o U' L ({ frames := 1, cells := 0, slots := 0, locals := 12 } : Room).cells ({ frames := 1, cells := 0, slots := 0, locals := 12 } : Room).slots) := by
  refine MetFree.of_bodySF (plainFor_of_name pn_com_example_topiq_topiq_protocol_MessageQueue) hisR ?_
  intro p e s m args below meth c s₁ Bd hml0 hP hK
  obtain ⟨rfl, hZ, hh⟩ := hP
  have hx := Bd.exec
  have hby := Bd.bytes
  have hml : c.maxLocals = 4 := hml0
  have hown : s.vm.findClass "com/example/topiq/topiq/protocol/MessageQueue" = some m.cls := findClass_of_methodNamed Bd.named
  have hnm := (name_of_methodNamed Bd.named Bd.method).1
  have X0 : Stand p l e ({ frames := 1, cells := 0, slots := 0, locals := 12 } : Room) s m #[(.ref a10_0), (.ref tp), (.ref bk), (.int qi)] below meth c s₁ [] 0 0 := Stand.of_body Bd
  have e0 : s₁.heap = h0 := by rw [← hh, Bd.state]; rfl
  have N0 := Fr.nil n0
  have pre0 : ∀ t, Steps p.tables e below (s₁.setTop (mkF m 0 #[rv a10_0, rv tp, rv bk, iv qi] [])) t → Steps p.tables e below (s₁.setTop (entryFrame m #[(.ref a10_0), (.ref tp), (.ref bk), (.int qi)] 4)) t := fun t k => castTop (ef_rm10 m a10_0 tp bk qi) k
  have wo24 := hw _ (List.mem_of_getElem? (i := 24) rfl)
  have wo25 := hw _ (List.mem_of_getElem? (i := 25) rfl)
  have wo43 := hw _ (List.mem_of_getElem? (i := 43) rfl)
  have wo48 := hw _ (List.mem_of_getElem? (i := 48) rfl)
  have wo49 := hw _ (List.mem_of_getElem? (i := 49) rfl)
  have wo50 := hw _ (List.mem_of_getElem? (i := 50) rfl)
  have wo51 := hw _ (List.mem_of_getElem? (i := 51) rfl)
  have wo52 := hw _ (List.mem_of_getElem? (i := 52) rfl)
  have wo53 := hw _ (List.mem_of_getElem? (i := 53) rfl)
  have wo54 := hw _ (List.mem_of_getElem? (i := 54) rfl)
  obtain ⟨T1, X1, e1, st1⟩ := initO X0 hx hZ hown wo48 wo24 wo25 e0 (g := (mkF m 1 #[rv a10_0, rv tp, rv bk, iv qi] [(.ref a10_0)])) rfl (by rw [hml]; rfl) rfl (hb hby d10_1) (by decide) (W := 0) (by show 2 * 0 + _ ≤ _; exact Nat.le_of_eq rfl) (by decide)
  obtain ⟨T2, h2, X2, e2, W2, st2⟩ := putF X1 hx hZ hown (host := "") (Or.inl wo49) Via.refl e1 pf_F_a10_0_topic pf_E_a10_0 (Or.inr ⟨wo50, rfl, hnm⟩) wo43 (ty := (.object "java/lang/String")) (by decide) rfl rfl (g := (mkF m 6 #[rv a10_0, rv tp, rv bk, iv qi] [(.ref tp), (.ref a10_0)])) rfl rfl (hb hby d10_6)
  have K3 : Keep h0 h2 [a10_0] := (Keep.refl h0 [a10_0]).wr W2 (Or.inl (List.mem_of_getElem? (i := 0) rfl))
  have f4 : Fld Z h2 a10_0 "com/example/topiq/topiq/protocol/MessageQueue" "topic" "Ljava/lang/String;" (.ref tp) := pf_F_a10_0_topic.same W2
  have N5 := Fr.snoc X2 N0 pf_G_a10_0
  have f6 := (pf_F_a10_0_brokerName.other W2 (Or.inr (slot_ne (Or.inr wo52) (Or.inr wo50) (by decide) (t := (.object "java/lang/String")) (t' := (.object "java/lang/String")) (by decide) (by decide))))
  have f7 := (pf_E_a10_0.wr W2)
  obtain ⟨T8, h8, X8, e8, W8, st8⟩ := putF X2 hx hZ hown (host := "") (Or.inl wo51) Via.refl e2 f6 f7 (Or.inr ⟨wo52, rfl, hnm⟩) wo43 (ty := (.object "java/lang/String")) (by decide) rfl rfl (g := (mkF m 11 #[rv a10_0, rv tp, rv bk, iv qi] [(.ref bk), (.ref a10_0)])) rfl rfl (hb hby d10_11)
  have K9 : Keep h0 h8 [a10_0] := (K3).wr W8 (Or.inl (List.mem_of_getElem? (i := 0) rfl))
  have f10 : Fld Z h8 a10_0 "com/example/topiq/topiq/protocol/MessageQueue" "brokerName" "Ljava/lang/String;" (.ref bk) := f6.same W8
  have N11 := Fr.snoc X8 N5 pf_G_a10_0
  have f12 := ((pf_F_a10_0_queueId.other W2 (Or.inr (slot_ne (Or.inr wo54) (Or.inr wo50) (by decide) (t := .int) (t' := (.object "java/lang/String")) (by decide) (by decide)))).other W8 (Or.inr (slot_ne (Or.inr wo54) (Or.inr wo52) (by decide) (t := .int) (t' := (.object "java/lang/String")) (by decide) (by decide))))
  have f13 := (f7.wr W8)
  obtain ⟨T14, h14, X14, e14, W14, st14⟩ := putF X8 hx hZ hown (host := "") (Or.inl wo53) Via.refl e8 f12 f13 (Or.inr ⟨wo54, rfl, hnm⟩) wo43 (ty := .int) (by decide) rfl rfl (g := (mkF m 16 #[rv a10_0, rv tp, rv bk, iv qi] [(.int qi), (.ref a10_0)])) rfl rfl (hb hby d10_16)
  have K15 : Keep h0 h14 [a10_0] := (K9).wr W14 (Or.inl (List.mem_of_getElem? (i := 0) rfl))
  have f16 : Fld Z h14 a10_0 "com/example/topiq/topiq/protocol/MessageQueue" "queueId" "I" (.int qi) := f12.same W14
  have N17 := Fr.snoc X14 N11 pf_G_a10_0
  have f18 := ((f4.other W8 (Or.inr (slot_ne (Or.inr wo50) (Or.inr wo52) (by decide) (t := (.object "java/lang/String")) (t' := (.object "java/lang/String")) (by decide) (by decide)))).other W14 (Or.inr (slot_ne (Or.inr wo50) (Or.inr wo54) (by decide) (t := (.object "java/lang/String")) (t' := .int) (by decide) (by decide))))
  have f19 := (f10.other W14 (Or.inr (slot_ne (Or.inr wo52) (Or.inr wo54) (by decide) (t := (.object "java/lang/String")) (t' := .int) (by decide) (by decide))))
  obtain ⟨fs, hr, hrun, hended, hW, hsame⟩ := X14.leave (v := none) (fun _ => rfl)
  refine ⟨_, _, pre0 _ ?_, hrun, hended, _, _, rfl, ?_, ⟨_, rfl⟩, hW, hsame.mono (by decide) (by decide)⟩
  · show Steps p.tables e below (s₁.setTop (mkF m 0 #[rv a10_0, rv tp, rv bk, iv qi] [])) _
    refine XS.aloadN X0.here hx rfl (hb hby d10_0) rfl rfl ?_
    show Steps p.tables e below (s₁.setTop (mkF m 1 #[rv a10_0, rv tp, rv bk, iv qi] [(.ref a10_0)])) _
    refine st1 _ ?_
    show Steps p.tables e below (T1.setTop (mkF m 4 #[rv a10_0, rv tp, rv bk, iv qi] [])) _
    refine XS.aloadN X1.here hx rfl (hb hby d10_4) rfl rfl ?_
    show Steps p.tables e below (T1.setTop (mkF m 5 #[rv a10_0, rv tp, rv bk, iv qi] [(.ref a10_0)])) _
    refine XS.aloadN X1.here hx rfl (hb hby d10_5) rfl rfl ?_
    show Steps p.tables e below (T1.setTop (mkF m 6 #[rv a10_0, rv tp, rv bk, iv qi] [(.ref tp), (.ref a10_0)])) _
    refine st2 _ ?_
    show Steps p.tables e below (T2.setTop (mkF m 9 #[rv a10_0, rv tp, rv bk, iv qi] [])) _
    refine XS.aloadN X2.here hx rfl (hb hby d10_9) rfl rfl ?_
    show Steps p.tables e below (T2.setTop (mkF m 10 #[rv a10_0, rv tp, rv bk, iv qi] [(.ref a10_0)])) _
    refine XS.aloadN X2.here hx rfl (hb hby d10_10) rfl rfl ?_
    show Steps p.tables e below (T2.setTop (mkF m 11 #[rv a10_0, rv tp, rv bk, iv qi] [(.ref bk), (.ref a10_0)])) _
    refine st8 _ ?_
    show Steps p.tables e below (T8.setTop (mkF m 14 #[rv a10_0, rv tp, rv bk, iv qi] [])) _
    refine XS.aloadN X8.here hx rfl (hb hby d10_14) rfl rfl ?_
    show Steps p.tables e below (T8.setTop (mkF m 15 #[rv a10_0, rv tp, rv bk, iv qi] [(.ref a10_0)])) _
    refine XS.iloadN X8.here hx rfl (hb hby d10_15) rfl ?_
    show Steps p.tables e below (T8.setTop (mkF m 16 #[rv a10_0, rv tp, rv bk, iv qi] [(.int qi), (.ref a10_0)])) _
    refine st14 _ ?_
    show Steps p.tables e below (T14.setTop (mkF m 19 #[rv a10_0, rv tp, rv bk, iv qi] [])) _
    exact X14.returnOut hx Bd.returns (hb hby d10_19) hr
  · show Q_rm10 Z _ _ _ _ h0 n0 _ T14.heap _
    rw [e14]
    exact ⟨rfl, N17, (K15), f18, f19, f16⟩
theorem d11_0 : decode method_5_code 0 = .ok (.iload_n 0, 1) := by decide +kernel
theorem d11_1 : decode method_5_code 1 = .ok (.iload_n 3, 1) := by decide +kernel
theorem d11_2 : decode method_5_code 2 = .ok (.if_icmp .eq 5, 3) := by decide +kernel
theorem d11_7 : decode method_5_code 7 = .ok (.iload_n 0, 1) := by decide +kernel
theorem d11_8 : decode method_5_code 8 = .ok (.iconst 1, 1) := by decide +kernel
theorem d11_9 : decode method_5_code 9 = .ok (.if_icmp .lt 11, 3) := by decide +kernel
theorem d11_20 : decode method_5_code 20 = .ok (.iload_n 0, 1) := by decide +kernel
theorem d11_21 : decode method_5_code 21 = .ok (.iconst 2, 1) := by decide +kernel
theorem d11_22 : decode method_5_code 22 = .ok (.if_icmp .lt 11, 3) := by decide +kernel
theorem d11_33 : decode method_5_code 33 = .ok (.iconst 1, 1) := by decide +kernel
theorem d11_34 : decode method_5_code 34 = .ok (.ireturn, 1) := by decide +kernel
theorem d11_12 : decode method_5_code 12 = .ok (.iload_n 1, 1) := by decide +kernel
theorem d11_13 : decode method_5_code 13 = .ok (.iload 4, 2) := by decide +kernel
theorem d11_15 : decode method_5_code 15 = .ok (.if_icmp .eq 5, 3) := by decide +kernel
theorem d11_25 : decode method_5_code 25 = .ok (.iload_n 2, 1) := by decide +kernel
theorem d11_26 : decode method_5_code 26 = .ok (.iload 5, 2) := by decide +kernel
theorem d11_28 : decode method_5_code 28 = .ok (.if_icmp .eq 5, 3) := by decide +kernel
theorem d11_31 : decode method_5_code 31 = .ok (.iconst 0, 1) := by decide +kernel
theorem d11_32 : decode method_5_code 32 = .ok (.ireturn, 1) := by decide +kernel
theorem d11_18 : decode method_5_code 18 = .ok (.iconst 0, 1) := by decide +kernel
theorem d11_19 : decode method_5_code 19 = .ok (.ireturn, 1) := by decide +kernel
theorem d11_5 : decode method_5_code 5 = .ok (.iconst 0, 1) := by decide +kernel
theorem d11_6 : decode method_5_code 6 = .ok (.ireturn, 1) := by decide +kernel
theorem ef_rm11 (m : MethodId) (x0 : Int32) (x1 : Int32) (x2 : Int32) (x3 : Int32) (x4 : Int32) (x5 : Int32) : entryFrame m #[(.int x0), (.int x1), (.int x2), (.int x3), (.int x4), (.int x5)] 6 = mkF m 0 #[iv x0, iv x1, iv x2, iv x3, iv x4, iv x5] [] := by first | (simp [entryFrame, mkF, argsToLocals, Value.category]; done) | rfl
def Q_rm11 (Z : State) (la : Int32) (a0_ : Int32) (a1_ : Int32) (lb : Int32) (b0_ : Int32) (b1_ : Int32) (h0 : Heap) (n0 : Nat) (v : Option Value) (h : Heap) (L : List Loc) : Prop := v = some (.int (if (own_bl la a0_ a1_) = (own_bl lb b0_ b1_) then (1 : Int32) else (0 : Int32))) ∧ Fr n0 L ∧ h = h0
set_option maxRecDepth 65536 in
set_option maxHeartbeats 40000000 in
theorem rm11 (l : Launch) (Z : State) (a0 : Array Value) (hw : ∀ d ∈ tables_1, d.before a0 Z = true) (ws : List Jvm.Cond) (la : Int32) (a0_ : Int32) (a1_ : Int32) (lb : Int32) (b0_ : Int32) (b1_ : Int32) (h0 : Heap) (n0 : Nat) (Z0 : n0 ≤ h0.size) (ha3 : la = 0 ∨ la = 1 ∨ la = 2) (hb3 : lb = 0 ∨ lb = 1 ∨ lb = 2) :
    MetFree l (⟨"com/example/topiq/topiq/protocol/MessageQueueEqualsPinLaw", "same", "(IIIIII)Z"⟩ : MethodName) (head1 (Jvm.Cond.code (⟨"com/example/topiq/topiq/protocol/MessageQueueEqualsPinLaw", "same", "(IIIIII)Z"⟩ : MethodName) method_5_code 6 (some .boolean) :: ws) ({ frames := 0, cells := 0, slots := 0, locals := 0 } : Room)) (fun a U => a = #[(.int la), (.int a0_), (.int a1_), (.int lb), (.int b0_), (.int b1_)] ∧ Z.Warmed39 U.vm ∧ U.heap = h0) (fun _ _ _ _ _ => True) (fun _ U o U' => ∃ v L, o = .returned v ∧ Q_rm11 Z la a0_ a1_ lb b0_ b1_ h0 n0 v U'.heap L ∧ FrameEnd U o U' L ({ frames := 0, cells := 0, slots := 0, locals := 0 } : Room).cells ({ frames := 0, cells := 0, slots := 0, locals := 0 } : Room).slots) := by
  refine MetFree.of_bodySF (plainFor_of_name pn_com_example_topiq_topiq_protocol_MessageQueueEqualsPinLaw) hisR ?_
  intro p e s m args below meth c s₁ Bd hml0 hP hK
  obtain ⟨rfl, hZ, hh⟩ := hP
  have hx := Bd.exec
  have hby := Bd.bytes
  have hml : c.maxLocals = 6 := hml0
  have hown : s.vm.findClass "com/example/topiq/topiq/protocol/MessageQueueEqualsPinLaw" = some m.cls := findClass_of_methodNamed Bd.named
  have hnm := (name_of_methodNamed Bd.named Bd.method).1
  have X0 : Stand p l e ({ frames := 0, cells := 0, slots := 0, locals := 0 } : Room) s m #[(.int la), (.int a0_), (.int a1_), (.int lb), (.int b0_), (.int b1_)] below meth c s₁ [] 0 0 := Stand.of_body Bd
  have e0 : s₁.heap = h0 := by rw [← hh, Bd.state]; rfl
  have N0 := Fr.nil n0
  have pre0 : ∀ t, Steps p.tables e below (s₁.setTop (mkF m 0 #[iv la, iv a0_, iv a1_, iv lb, iv b0_, iv b1_] [])) t → Steps p.tables e below (s₁.setTop (entryFrame m #[(.int la), (.int a0_), (.int a1_), (.int lb), (.int b0_), (.int b1_)] 6)) t := fun t k => castTop (ef_rm11 m la a0_ a1_ lb b0_ b1_) k
  have pre2 : ∀ t, Steps p.tables e below (s₁.setTop (mkF m 2 #[iv la, iv a0_, iv a1_, iv lb, iv b0_, iv b1_] [(.int lb), (.int la)])) t → Steps p.tables e below (s₁.setTop (entryFrame m #[(.int la), (.int a0_), (.int a1_), (.int lb), (.int b0_), (.int b1_)] 6)) t := by
    intro t_ k_
    refine pre0 _ ?_
    show Steps p.tables e below (s₁.setTop (mkF m 0 #[iv la, iv a0_, iv a1_, iv lb, iv b0_, iv b1_] [])) _
    refine XS.iloadN X0.here hx rfl (hb hby d11_0) rfl ?_
    show Steps p.tables e below (s₁.setTop (mkF m 1 #[iv la, iv a0_, iv a1_, iv lb, iv b0_, iv b1_] [(.int la)])) _
    refine XS.iloadN X0.here hx rfl (hb hby d11_1) rfl ?_
    exact k_
  by_cases hc2_1 : la = lb
  · skip
    have pre4 : ∀ t, Steps p.tables e below (s₁.setTop (mkF m 9 #[iv la, iv a0_, iv a1_, iv lb, iv b0_, iv b1_] [(.int (1 : Int32)), (.int la)])) t → Steps p.tables e below (s₁.setTop (entryFrame m #[(.int la), (.int a0_), (.int a1_), (.int lb), (.int b0_), (.int b1_)] 6)) t := by
      intro t_ k_
      refine pre2 _ ?_
      show Steps p.tables e below (s₁.setTop (mkF m 2 #[iv la, iv a0_, iv a1_, iv lb, iv b0_, iv b1_] [(.int lb), (.int la)])) _
      refine XS.icmpYes X0.here hx rfl (pc0 := 2) (pc' := 7) rfl (hb hby d11_2) rfl (teq hc2_1).1 (by decide) (by decide) ?_
      show Steps p.tables e below (s₁.setTop (mkF m 7 #[iv la, iv a0_, iv a1_, iv lb, iv b0_, iv b1_] [])) _
      refine XS.iloadN X0.here hx rfl (hb hby d11_7) rfl ?_
      show Steps p.tables e below (s₁.setTop (mkF m 8 #[iv la, iv a0_, iv a1_, iv lb, iv b0_, iv b1_] [(.int la)])) _
      refine XS.iconst X0.here hx rfl (hb hby d11_8) ?_
      exact k_
    by_cases hc9_3 : la < (1 : Int32)
    · skip
      have hc5 : la < (2 : Int32) := own_12 hc9_3
      obtain ⟨fs, hr, hrun, hended, hW, hsame⟩ := X0.leave (v := some (.int (1 : Int32))) (fun h => by rw [Bd.returns] at h; cases h)
      refine ⟨_, _, pre4 _ ?_, hrun, hended, _, _, rfl, ?_, ⟨_, rfl⟩, hW, hsame.mono (by decide) (by decide)⟩
      · show Steps p.tables e below (s₁.setTop (mkF m 9 #[iv la, iv a0_, iv a1_, iv lb, iv b0_, iv b1_] [(.int (1 : Int32)), (.int la)])) _
        refine XS.icmpYes X0.here hx rfl (pc0 := 9) (pc' := 20) rfl (hb hby d11_9) rfl (tlt hc9_3).1 (by decide) (by decide) ?_
        show Steps p.tables e below (s₁.setTop (mkF m 20 #[iv la, iv a0_, iv a1_, iv lb, iv b0_, iv b1_] [])) _
        refine XS.iloadN X0.here hx rfl (hb hby d11_20) rfl ?_
        show Steps p.tables e below (s₁.setTop (mkF m 21 #[iv la, iv a0_, iv a1_, iv lb, iv b0_, iv b1_] [(.int la)])) _
        refine XS.iconst X0.here hx rfl (hb hby d11_21) ?_
        show Steps p.tables e below (s₁.setTop (mkF m 22 #[iv la, iv a0_, iv a1_, iv lb, iv b0_, iv b1_] [(.int (2 : Int32)), (.int la)])) _
        refine XS.icmpYes X0.here hx rfl (pc0 := 22) (pc' := 33) rfl (hb hby d11_22) rfl (tlt hc5).1 (by decide) (by decide) ?_
        show Steps p.tables e below (s₁.setTop (mkF m 33 #[iv la, iv a0_, iv a1_, iv lb, iv b0_, iv b1_] [])) _
        refine XS.iconst X0.here hx rfl (hb hby d11_33) ?_
        show Steps p.tables e below (s₁.setTop (mkF m 34 #[iv la, iv a0_, iv a1_, iv lb, iv b0_, iv b1_] [(.int (1 : Int32))])) _
        exact retN X0 hx (t := .boolean) Bd.returns (by simp) (hb hby d11_34) hr
      · show Q_rm11 Z _ _ _ _ _ _ h0 n0 _ s₁.heap _
        rw [e0]
        exact ⟨(by show some (Value.int _) = some (Value.int _); congr 2; exact (if_pos (own_s4 ha3 hc2_1 (Or.inl hc9_3) (Or.inl hc5))).symm), N0, rfl⟩
    · skip
      have pre7 : ∀ t, Steps p.tables e below (s₁.setTop (mkF m 15 #[iv la, iv a0_, iv a1_, iv lb, iv b0_, iv b1_] [(.int b0_), (.int a0_)])) t → Steps p.tables e below (s₁.setTop (entryFrame m #[(.int la), (.int a0_), (.int a1_), (.int lb), (.int b0_), (.int b1_)] 6)) t := by
        intro t_ k_
        refine pre4 _ ?_
        show Steps p.tables e below (s₁.setTop (mkF m 9 #[iv la, iv a0_, iv a1_, iv lb, iv b0_, iv b1_] [(.int (1 : Int32)), (.int la)])) _
        refine XS.icmpNo X0.here hx rfl (hb hby d11_9) rfl (flt hc9_3).1 ?_
        show Steps p.tables e below (s₁.setTop (mkF m 12 #[iv la, iv a0_, iv a1_, iv lb, iv b0_, iv b1_] [])) _
        refine XS.iloadN X0.here hx rfl (hb hby d11_12) rfl ?_
        show Steps p.tables e below (s₁.setTop (mkF m 13 #[iv la, iv a0_, iv a1_, iv lb, iv b0_, iv b1_] [(.int a0_)])) _
        refine XS.iload X0.here hx rfl (hb hby d11_13) rfl ?_
        exact k_
      by_cases hc15_6 : a0_ = b0_
      · skip
        have pre9 : ∀ t, Steps p.tables e below (s₁.setTop (mkF m 22 #[iv la, iv a0_, iv a1_, iv lb, iv b0_, iv b1_] [(.int (2 : Int32)), (.int la)])) t → Steps p.tables e below (s₁.setTop (entryFrame m #[(.int la), (.int a0_), (.int a1_), (.int lb), (.int b0_), (.int b1_)] 6)) t := by
          intro t_ k_
          refine pre7 _ ?_
          show Steps p.tables e below (s₁.setTop (mkF m 15 #[iv la, iv a0_, iv a1_, iv lb, iv b0_, iv b1_] [(.int b0_), (.int a0_)])) _
          refine XS.icmpYes X0.here hx rfl (pc0 := 15) (pc' := 20) rfl (hb hby d11_15) rfl (teq hc15_6).1 (by decide) (by decide) ?_
          show Steps p.tables e below (s₁.setTop (mkF m 20 #[iv la, iv a0_, iv a1_, iv lb, iv b0_, iv b1_] [])) _
          refine XS.iloadN X0.here hx rfl (hb hby d11_20) rfl ?_
          show Steps p.tables e below (s₁.setTop (mkF m 21 #[iv la, iv a0_, iv a1_, iv lb, iv b0_, iv b1_] [(.int la)])) _
          refine XS.iconst X0.here hx rfl (hb hby d11_21) ?_
          exact k_
        by_cases hc22_8 : la < (2 : Int32)
        · skip
          obtain ⟨fs, hr, hrun, hended, hW, hsame⟩ := X0.leave (v := some (.int (1 : Int32))) (fun h => by rw [Bd.returns] at h; cases h)
          refine ⟨_, _, pre9 _ ?_, hrun, hended, _, _, rfl, ?_, ⟨_, rfl⟩, hW, hsame.mono (by decide) (by decide)⟩
          · show Steps p.tables e below (s₁.setTop (mkF m 22 #[iv la, iv a0_, iv a1_, iv lb, iv b0_, iv b1_] [(.int (2 : Int32)), (.int la)])) _
            refine XS.icmpYes X0.here hx rfl (pc0 := 22) (pc' := 33) rfl (hb hby d11_22) rfl (tlt hc22_8).1 (by decide) (by decide) ?_
            show Steps p.tables e below (s₁.setTop (mkF m 33 #[iv la, iv a0_, iv a1_, iv lb, iv b0_, iv b1_] [])) _
            refine XS.iconst X0.here hx rfl (hb hby d11_33) ?_
            show Steps p.tables e below (s₁.setTop (mkF m 34 #[iv la, iv a0_, iv a1_, iv lb, iv b0_, iv b1_] [(.int (1 : Int32))])) _
            exact retN X0 hx (t := .boolean) Bd.returns (by simp) (hb hby d11_34) hr
          · show Q_rm11 Z _ _ _ _ _ _ h0 n0 _ s₁.heap _
            rw [e0]
            exact ⟨(by show some (Value.int _) = some (Value.int _); congr 2; exact (if_pos (own_s4 ha3 hc2_1 (Or.inr hc15_6) (Or.inl hc22_8))).symm), N0, rfl⟩
        · skip
          have pre11 : ∀ t, Steps p.tables e below (s₁.setTop (mkF m 28 #[iv la, iv a0_, iv a1_, iv lb, iv b0_, iv b1_] [(.int b1_), (.int a1_)])) t → Steps p.tables e below (s₁.setTop (entryFrame m #[(.int la), (.int a0_), (.int a1_), (.int lb), (.int b0_), (.int b1_)] 6)) t := by
            intro t_ k_
            refine pre9 _ ?_
            show Steps p.tables e below (s₁.setTop (mkF m 22 #[iv la, iv a0_, iv a1_, iv lb, iv b0_, iv b1_] [(.int (2 : Int32)), (.int la)])) _
            refine XS.icmpNo X0.here hx rfl (hb hby d11_22) rfl (flt hc22_8).1 ?_
            show Steps p.tables e below (s₁.setTop (mkF m 25 #[iv la, iv a0_, iv a1_, iv lb, iv b0_, iv b1_] [])) _
            refine XS.iloadN X0.here hx rfl (hb hby d11_25) rfl ?_
            show Steps p.tables e below (s₁.setTop (mkF m 26 #[iv la, iv a0_, iv a1_, iv lb, iv b0_, iv b1_] [(.int a1_)])) _
            refine XS.iload X0.here hx rfl (hb hby d11_26) rfl ?_
            exact k_
          by_cases hc28_10 : a1_ = b1_
          · skip
            obtain ⟨fs, hr, hrun, hended, hW, hsame⟩ := X0.leave (v := some (.int (1 : Int32))) (fun h => by rw [Bd.returns] at h; cases h)
            refine ⟨_, _, pre11 _ ?_, hrun, hended, _, _, rfl, ?_, ⟨_, rfl⟩, hW, hsame.mono (by decide) (by decide)⟩
            · show Steps p.tables e below (s₁.setTop (mkF m 28 #[iv la, iv a0_, iv a1_, iv lb, iv b0_, iv b1_] [(.int b1_), (.int a1_)])) _
              refine XS.icmpYes X0.here hx rfl (pc0 := 28) (pc' := 33) rfl (hb hby d11_28) rfl (teq hc28_10).1 (by decide) (by decide) ?_
              show Steps p.tables e below (s₁.setTop (mkF m 33 #[iv la, iv a0_, iv a1_, iv lb, iv b0_, iv b1_] [])) _
              refine XS.iconst X0.here hx rfl (hb hby d11_33) ?_
              show Steps p.tables e below (s₁.setTop (mkF m 34 #[iv la, iv a0_, iv a1_, iv lb, iv b0_, iv b1_] [(.int (1 : Int32))])) _
              exact retN X0 hx (t := .boolean) Bd.returns (by simp) (hb hby d11_34) hr
            · show Q_rm11 Z _ _ _ _ _ _ h0 n0 _ s₁.heap _
              rw [e0]
              exact ⟨(by show some (Value.int _) = some (Value.int _); congr 2; exact (if_pos (own_s4 ha3 hc2_1 (Or.inr hc15_6) (Or.inr hc28_10))).symm), N0, rfl⟩
          · skip
            obtain ⟨fs, hr, hrun, hended, hW, hsame⟩ := X0.leave (v := some (.int (0 : Int32))) (fun h => by rw [Bd.returns] at h; cases h)
            refine ⟨_, _, pre11 _ ?_, hrun, hended, _, _, rfl, ?_, ⟨_, rfl⟩, hW, hsame.mono (by decide) (by decide)⟩
            · show Steps p.tables e below (s₁.setTop (mkF m 28 #[iv la, iv a0_, iv a1_, iv lb, iv b0_, iv b1_] [(.int b1_), (.int a1_)])) _
              refine XS.icmpNo X0.here hx rfl (hb hby d11_28) rfl (feq hc28_10).1 ?_
              show Steps p.tables e below (s₁.setTop (mkF m 31 #[iv la, iv a0_, iv a1_, iv lb, iv b0_, iv b1_] [])) _
              refine XS.iconst X0.here hx rfl (hb hby d11_31) ?_
              show Steps p.tables e below (s₁.setTop (mkF m 32 #[iv la, iv a0_, iv a1_, iv lb, iv b0_, iv b1_] [(.int (0 : Int32))])) _
              exact retN X0 hx (t := .boolean) Bd.returns (by simp) (hb hby d11_32) hr
            · show Q_rm11 Z _ _ _ _ _ _ h0 n0 _ s₁.heap _
              rw [e0]
              exact ⟨(by show some (Value.int _) = some (Value.int _); congr 2; exact (if_neg (own_s3 ha3 hc2_1 hc22_8 hc28_10)).symm), N0, rfl⟩
      · skip
        obtain ⟨fs, hr, hrun, hended, hW, hsame⟩ := X0.leave (v := some (.int (0 : Int32))) (fun h => by rw [Bd.returns] at h; cases h)
        refine ⟨_, _, pre7 _ ?_, hrun, hended, _, _, rfl, ?_, ⟨_, rfl⟩, hW, hsame.mono (by decide) (by decide)⟩
        · show Steps p.tables e below (s₁.setTop (mkF m 15 #[iv la, iv a0_, iv a1_, iv lb, iv b0_, iv b1_] [(.int b0_), (.int a0_)])) _
          refine XS.icmpNo X0.here hx rfl (hb hby d11_15) rfl (feq hc15_6).1 ?_
          show Steps p.tables e below (s₁.setTop (mkF m 18 #[iv la, iv a0_, iv a1_, iv lb, iv b0_, iv b1_] [])) _
          refine XS.iconst X0.here hx rfl (hb hby d11_18) ?_
          show Steps p.tables e below (s₁.setTop (mkF m 19 #[iv la, iv a0_, iv a1_, iv lb, iv b0_, iv b1_] [(.int (0 : Int32))])) _
          exact retN X0 hx (t := .boolean) Bd.returns (by simp) (hb hby d11_19) hr
        · show Q_rm11 Z _ _ _ _ _ _ h0 n0 _ s₁.heap _
          rw [e0]
          exact ⟨(by show some (Value.int _) = some (Value.int _); congr 2; exact (if_neg (own_s2 ha3 hc2_1 hc9_3 hc15_6)).symm), N0, rfl⟩
  · skip
    obtain ⟨fs, hr, hrun, hended, hW, hsame⟩ := X0.leave (v := some (.int (0 : Int32))) (fun h => by rw [Bd.returns] at h; cases h)
    refine ⟨_, _, pre2 _ ?_, hrun, hended, _, _, rfl, ?_, ⟨_, rfl⟩, hW, hsame.mono (by decide) (by decide)⟩
    · show Steps p.tables e below (s₁.setTop (mkF m 2 #[iv la, iv a0_, iv a1_, iv lb, iv b0_, iv b1_] [(.int lb), (.int la)])) _
      refine XS.icmpNo X0.here hx rfl (hb hby d11_2) rfl (feq hc2_1).1 ?_
      show Steps p.tables e below (s₁.setTop (mkF m 5 #[iv la, iv a0_, iv a1_, iv lb, iv b0_, iv b1_] [])) _
      refine XS.iconst X0.here hx rfl (hb hby d11_5) ?_
      show Steps p.tables e below (s₁.setTop (mkF m 6 #[iv la, iv a0_, iv a1_, iv lb, iv b0_, iv b1_] [(.int (0 : Int32))])) _
      exact retN X0 hx (t := .boolean) Bd.returns (by simp) (hb hby d11_6) hr
    · show Q_rm11 Z _ _ _ _ _ _ h0 n0 _ s₁.heap _
      rw [e0]
      exact ⟨(by show some (Value.int _) = some (Value.int _); congr 2; exact (if_neg (own_s1 ha3 hb3 hc2_1)).symm), N0, rfl⟩
theorem d12_0 : decode prog_40_method_7_code 0 = .ok (.aload_n 1, 1) := by decide +kernel
theorem d12_1 : decode prog_40_method_7_code 1 = .ok (.instanceof 8, 3) := by decide +kernel
theorem d12_4 : decode prog_40_method_7_code 4 = .ok (.ifCond .eq 51, 3) := by decide +kernel
theorem d12_55 : decode prog_40_method_7_code 55 = .ok (.iconst 0, 1) := by decide +kernel
theorem d12_56 : decode prog_40_method_7_code 56 = .ok (.ireturn, 1) := by decide +kernel
theorem ef_rmNull (m : MethodId) (x0 : Addr) : entryFrame m #[(.ref x0), .null] 3 = mkF m 0 #[rv x0, .val .null, .unset] [] := by first | (simp [entryFrame, mkF, argsToLocals, Value.category]; done) | rfl
def Q_rmNull (Z : State) (a12_0 : Addr) (h0 : Heap) (n0 : Nat) (v : Option Value) (h : Heap) (L : List Loc) : Prop := v = some (.int (0 : Int32)) ∧ Fr n0 L ∧ h = h0
set_option maxRecDepth 65536 in
set_option maxHeartbeats 40000000 in
theorem rmNull (l : Launch) (Z : State) (a0 : Array Value) (hw : ∀ d ∈ tables_1, d.before a0 Z = true) (ws : List Jvm.Cond) (a12_0 : Addr) (h0 : Heap) (n0 : Nat) (Z0 : n0 ≤ h0.size) :
    MetFree l (⟨"com/example/topiq/topiq/protocol/MessageQueue", "equals", "(Ljava/lang/Object;)Z"⟩ : MethodName) (head1 (Jvm.Cond.code (⟨"com/example/topiq/topiq/protocol/MessageQueue", "equals", "(Ljava/lang/Object;)Z"⟩ : MethodName) prog_40_method_7_code 3 (some .boolean) :: ws) ({ frames := 0, cells := 0, slots := 0, locals := 0 } : Room)) (fun a U => a = #[(.ref a12_0), .null] ∧ Z.Warmed39 U.vm ∧ U.heap = h0) (fun _ _ _ _ _ => True) (fun _ U o U' => ∃ v L, o = .returned v ∧ Q_rmNull Z a12_0 h0 n0 v U'.heap L ∧ FrameEnd U o U' L ({ frames := 0, cells := 0, slots := 0, locals := 0 } : Room).cells ({ frames := 0, cells := 0, slots := 0, locals := 0 } : Room).slots) := by
  refine MetFree.of_bodySF (plainFor_of_name pn_com_example_topiq_topiq_protocol_MessageQueue) hisR ?_
  intro p e s m args below meth c s₁ Bd hml0 hP hK
  obtain ⟨rfl, hZ, hh⟩ := hP
  have hx := Bd.exec
  have hby := Bd.bytes
  have hml : c.maxLocals = 3 := hml0
  have hown : s.vm.findClass "com/example/topiq/topiq/protocol/MessageQueue" = some m.cls := findClass_of_methodNamed Bd.named
  have hnm := (name_of_methodNamed Bd.named Bd.method).1
  have X0 : Stand p l e ({ frames := 0, cells := 0, slots := 0, locals := 0 } : Room) s m #[(.ref a12_0), .null] below meth c s₁ [] 0 0 := Stand.of_body Bd
  have e0 : s₁.heap = h0 := by rw [← hh, Bd.state]; rfl
  have N0 := Fr.nil n0
  have pre0 : ∀ t, Steps p.tables e below (s₁.setTop (mkF m 0 #[rv a12_0, .val .null, .unset] [])) t → Steps p.tables e below (s₁.setTop (entryFrame m #[(.ref a12_0), .null] 3)) t := fun t k => castTop (ef_rmNull m a12_0) k
  obtain ⟨fs, hr, hrun, hended, hW, hsame⟩ := X0.leave (v := some (.int (0 : Int32))) (fun h => by rw [Bd.returns] at h; cases h)
  refine ⟨_, _, pre0 _ ?_, hrun, hended, _, _, rfl, ?_, ⟨_, rfl⟩, hW, hsame.mono (by decide) (by decide)⟩
  · show Steps p.tables e below (s₁.setTop (mkF m 0 #[rv a12_0, .val .null, .unset] [])) _
    refine XS.aloadN X0.here hx rfl (hb hby d12_0) rfl rfl ?_
    show Steps p.tables e below (s₁.setTop (mkF m 1 #[rv a12_0, .val .null, .unset] [.null])) _
    refine X0.instanceofNull hx (g := (mkF m 1 #[rv a12_0, .val .null, .unset] [.null])) rfl rfl (hb hby d12_1) _ ?_
    show Steps p.tables e below (s₁.setTop (mkF m 4 #[rv a12_0, .val .null, .unset] [(.int (0 : Int32))])) _
    refine XS.ifYes X0.here hx rfl (pc0 := 4) (pc' := 55) rfl (hb hby d12_4) rfl ((if0 _ _).trans (teq (by decide : (0 : Int32) = (0 : Int32))).1) (by decide) (by decide) ?_
    show Steps p.tables e below (s₁.setTop (mkF m 55 #[rv a12_0, .val .null, .unset] [])) _
    refine XS.iconst X0.here hx rfl (hb hby d12_55) ?_
    show Steps p.tables e below (s₁.setTop (mkF m 56 #[rv a12_0, .val .null, .unset] [(.int (0 : Int32))])) _
    exact retN X0 hx (t := .boolean) Bd.returns (by simp) (hb hby d12_56) hr
  · show Q_rmNull Z _ h0 n0 _ s₁.heap _
    rw [e0]
    exact ⟨rfl, N0, rfl⟩
theorem ef_rmStr (m : MethodId) (x0 : Addr) (x1 : Addr) : entryFrame m #[(.ref x0), (.ref x1)] 3 = mkF m 0 #[rv x0, rv x1, .unset] [] := by first | (simp [entryFrame, mkF, argsToLocals, Value.category]; done) | rfl
def Q_rmStr (Z : State) (a12_0 : Addr) (ot : Addr) (h0 : Heap) (n0 : Nat) (v : Option Value) (h : Heap) (L : List Loc) : Prop := v = some (.int (0 : Int32)) ∧ Fr n0 L ∧ h = h0
set_option maxRecDepth 65536 in
set_option maxHeartbeats 40000000 in
theorem rmStr (l : Launch) (Z : State) (a0 : Array Value) (hw : ∀ d ∈ tables_1, d.before a0 Z = true) (ws : List Jvm.Cond) (a12_0 : Addr) (ot : Addr) (h0 : Heap) (n0 : Nat) (Z0 : n0 ≤ h0.size) (pf_E_ot : Exa Z h0 ot "java/lang/String") :
    MetFree l (⟨"com/example/topiq/topiq/protocol/MessageQueue", "equals", "(Ljava/lang/Object;)Z"⟩ : MethodName) (head1 (Jvm.Cond.code (⟨"com/example/topiq/topiq/protocol/MessageQueue", "equals", "(Ljava/lang/Object;)Z"⟩ : MethodName) prog_40_method_7_code 3 (some .boolean) :: ws) ({ frames := 0, cells := 0, slots := 0, locals := 0 } : Room)) (fun a U => a = #[(.ref a12_0), (.ref ot)] ∧ Z.Warmed39 U.vm ∧ U.heap = h0) (fun _ _ _ _ _ => True) (fun _ U o U' => ∃ v L, o = .returned v ∧ Q_rmStr Z a12_0 ot h0 n0 v U'.heap L ∧ FrameEnd U o U' L ({ frames := 0, cells := 0, slots := 0, locals := 0 } : Room).cells ({ frames := 0, cells := 0, slots := 0, locals := 0 } : Room).slots) := by
  refine MetFree.of_bodySF (plainFor_of_name pn_com_example_topiq_topiq_protocol_MessageQueue) hisR ?_
  intro p e s m args below meth c s₁ Bd hml0 hP hK
  obtain ⟨rfl, hZ, hh⟩ := hP
  have hx := Bd.exec
  have hby := Bd.bytes
  have hml : c.maxLocals = 3 := hml0
  have hown : s.vm.findClass "com/example/topiq/topiq/protocol/MessageQueue" = some m.cls := findClass_of_methodNamed Bd.named
  have hnm := (name_of_methodNamed Bd.named Bd.method).1
  have X0 : Stand p l e ({ frames := 0, cells := 0, slots := 0, locals := 0 } : Room) s m #[(.ref a12_0), (.ref ot)] below meth c s₁ [] 0 0 := Stand.of_body Bd
  have e0 : s₁.heap = h0 := by rw [← hh, Bd.state]; rfl
  have N0 := Fr.nil n0
  have pre0 : ∀ t, Steps p.tables e below (s₁.setTop (mkF m 0 #[rv a12_0, rv ot, .unset] [])) t → Steps p.tables e below (s₁.setTop (entryFrame m #[(.ref a12_0), (.ref ot)] 3)) t := fun t k => castTop (ef_rmStr m a12_0 ot) k
  have wo43 := hw _ (List.mem_of_getElem? (i := 43) rfl)
  have wo63 := hw _ (List.mem_of_getElem? (i := 63) rfl)
  have wo78 := hw _ (List.mem_of_getElem? (i := 78) rfl)
  have wo79 := hw _ (List.mem_of_getElem? (i := 79) rfl)
  obtain ⟨T1, X1, e1, st1⟩ := instNo X0 hx hZ hown wo63 e0 pf_E_ot (own_noinst wo78 wo79 wo43) (g := (mkF m 1 #[rv a12_0, rv ot, .unset] [(.ref ot)])) rfl rfl (hb hby d12_1)
  obtain ⟨fs, hr, hrun, hended, hW, hsame⟩ := X1.leave (v := some (.int (0 : Int32))) (fun h => by rw [Bd.returns] at h; cases h)
  refine ⟨_, _, pre0 _ ?_, hrun, hended, _, _, rfl, ?_, ⟨_, rfl⟩, hW, hsame.mono (by decide) (by decide)⟩
  · show Steps p.tables e below (s₁.setTop (mkF m 0 #[rv a12_0, rv ot, .unset] [])) _
    refine XS.aloadN X0.here hx rfl (hb hby d12_0) rfl rfl ?_
    show Steps p.tables e below (s₁.setTop (mkF m 1 #[rv a12_0, rv ot, .unset] [(.ref ot)])) _
    refine st1 _ ?_
    show Steps p.tables e below (T1.setTop (mkF m 4 #[rv a12_0, rv ot, .unset] [(.int (0 : Int32))])) _
    refine XS.ifYes X1.here hx rfl (pc0 := 4) (pc' := 55) rfl (hb hby d12_4) rfl ((if0 _ _).trans (teq (by decide : (0 : Int32) = (0 : Int32))).1) (by decide) (by decide) ?_
    show Steps p.tables e below (T1.setTop (mkF m 55 #[rv a12_0, rv ot, .unset] [])) _
    refine XS.iconst X1.here hx rfl (hb hby d12_55) ?_
    show Steps p.tables e below (T1.setTop (mkF m 56 #[rv a12_0, rv ot, .unset] [(.int (0 : Int32))])) _
    exact retN X1 hx (t := .boolean) Bd.returns (by simp) (hb hby d12_56) hr
  · show Q_rmStr Z _ _ h0 n0 _ T1.heap _
    rw [e1]
    exact ⟨rfl, N0, rfl⟩
theorem d12_7 : decode prog_40_method_7_code 7 = .ok (.aload_n 1, 1) := by decide +kernel
theorem d12_8 : decode prog_40_method_7_code 8 = .ok (.checkcast 8, 3) := by decide +kernel
theorem d12_11 : decode prog_40_method_7_code 11 = .ok (.astore_n 2, 1) := by decide +kernel
theorem d12_12 : decode prog_40_method_7_code 12 = .ok (.aload_n 0, 1) := by decide +kernel
theorem d12_13 : decode prog_40_method_7_code 13 = .ok (.getfield 7, 3) := by decide +kernel
theorem d12_16 : decode prog_40_method_7_code 16 = .ok (.aload_n 2, 1) := by decide +kernel
theorem d12_17 : decode prog_40_method_7_code 17 = .ok (.getfield 7, 3) := by decide +kernel
theorem pd_5 : parseMethodDescriptor "(Ljava/lang/Object;)Z" = some ⟨[(.object "java/lang/Object")], some .boolean⟩ := by decide +kernel
theorem d12_20 : decode prog_40_method_7_code 20 = .ok (.invokevirtual 100, 3) := by decide +kernel
theorem d12_23 : decode prog_40_method_7_code 23 = .ok (.ifCond .eq 32, 3) := by decide +kernel
theorem d12_26 : decode prog_40_method_7_code 26 = .ok (.aload_n 0, 1) := by decide +kernel
theorem d12_27 : decode prog_40_method_7_code 27 = .ok (.getfield 13, 3) := by decide +kernel
theorem d12_30 : decode prog_40_method_7_code 30 = .ok (.aload_n 2, 1) := by decide +kernel
theorem d12_31 : decode prog_40_method_7_code 31 = .ok (.getfield 13, 3) := by decide +kernel
theorem d12_34 : decode prog_40_method_7_code 34 = .ok (.invokevirtual 100, 3) := by decide +kernel
theorem d12_37 : decode prog_40_method_7_code 37 = .ok (.ifCond .eq 18, 3) := by decide +kernel
theorem d12_40 : decode prog_40_method_7_code 40 = .ok (.aload_n 0, 1) := by decide +kernel
theorem d12_41 : decode prog_40_method_7_code 41 = .ok (.getfield 16, 3) := by decide +kernel
theorem d12_44 : decode prog_40_method_7_code 44 = .ok (.aload_n 2, 1) := by decide +kernel
theorem d12_45 : decode prog_40_method_7_code 45 = .ok (.getfield 16, 3) := by decide +kernel
theorem d12_48 : decode prog_40_method_7_code 48 = .ok (.if_icmp .ne 7, 3) := by decide +kernel
theorem d12_51 : decode prog_40_method_7_code 51 = .ok (.iconst 1, 1) := by decide +kernel
theorem d12_52 : decode prog_40_method_7_code 52 = .ok (.goto 4, 3) := by decide +kernel
theorem ef_rmEq (m : MethodId) (x0 : Addr) (x1 : Addr) : entryFrame m #[(.ref x0), (.ref x1)] 3 = mkF m 0 #[rv x0, rv x1, .unset] [] := by first | (simp [entryFrame, mkF, argsToLocals, Value.category]; done) | rfl
def Q_rmEq (Z : State) (a12_0 : Addr) (ot : Addr) (sa_ : Addr) (va_ : Addr) (na_ : Int32) (ca_ : List Int32) (sb_ : Addr) (vb_ : Addr) (nb_ : Int32) (cb_ : List Int32) (sc_ : Addr) (vc_ : Addr) (nc_ : Int32) (cc_ : List Int32) (sd_ : Addr) (vd_ : Addr) (nd_ : Int32) (cd_ : List Int32) (ia_ : Int32) (ib_ : Int32) (cs : Int32) (h0 : Heap) (n0 : Nat) (v : Option Value) (h : Heap) (L : List Loc) : Prop := v = some (.int (if ca_ = cb_ ∧ cc_ = cd_ ∧ ia_ = ib_ then (1 : Int32) else (0 : Int32))) ∧ Fr n0 L ∧ h = h0
set_option maxRecDepth 65536 in
set_option maxHeartbeats 40000000 in
theorem rmEq (l : Launch) (Z : State) (a0 : Array Value) (hw : ∀ d ∈ tables_1, d.before a0 Z = true) (ws : List Jvm.Cond) (a12_0 : Addr) (ot : Addr) (sa_ : Addr) (va_ : Addr) (na_ : Int32) (ca_ : List Int32) (sb_ : Addr) (vb_ : Addr) (nb_ : Int32) (cb_ : List Int32) (sc_ : Addr) (vc_ : Addr) (nc_ : Int32) (cc_ : List Int32) (sd_ : Addr) (vd_ : Addr) (nd_ : Int32) (cd_ : List Int32) (ia_ : Int32) (ib_ : Int32) (cs : Int32) (h0 : Heap) (n0 : Nat) (Z0 : n0 ≤ h0.size) (pf_O : Old Z n0 h0) (pf_S_java_lang_String_COMPACT_STRINGS : Sta Z Z.heap "java/lang/String" "COMPACT_STRINGS" "Z" (.int cs)) (hcs : ¬ (cs = (0 : Int32))) (pf_E_a12_0 : Exa Z h0 a12_0 "com/example/topiq/topiq/protocol/MessageQueue") (pf_E_ot : Exa Z h0 ot "com/example/topiq/topiq/protocol/MessageQueue") (pf_F_a12_0_topic : Fld Z h0 a12_0 "com/example/topiq/topiq/protocol/MessageQueue" "topic" "Ljava/lang/String;" (.ref sa_)) (pf_F_ot_topic : Fld Z h0 ot "com/example/topiq/topiq/protocol/MessageQueue" "topic" "Ljava/lang/String;" (.ref sb_)) (pf_F_a12_0_brokerName : Fld Z h0 a12_0 "com/example/topiq/topiq/protocol/MessageQueue" "brokerName" "Ljava/lang/String;" (.ref sc_)) (pf_F_ot_brokerName : Fld Z h0 ot "com/example/topiq/topiq/protocol/MessageQueue" "brokerName" "Ljava/lang/String;" (.ref sd_)) (pf_F_a12_0_queueId : Fld Z h0 a12_0 "com/example/topiq/topiq/protocol/MessageQueue" "queueId" "I" (.int ia_)) (pf_F_ot_queueId : Fld Z h0 ot "com/example/topiq/topiq/protocol/MessageQueue" "queueId" "I" (.int ib_)) (pf_E_sa_ : Exa Z h0 sa_ "java/lang/String") (pf_F_sa__value : Fld Z h0 sa_ "java/lang/String" "value" "[B" (.ref va_)) (pf_F_sa__coder : Fld Z h0 sa_ "java/lang/String" "coder" "B" (.int (0 : Int32))) (pf_A_va_ : Av Z h0 va_ .byte na_ (own_vs ca_) (.int (0 : Int32))) (hnca_ : na_ = Int32.ofNat ca_.length) (hrca_ : ∀ c ∈ ca_, ¬ c < 0 ∧ ¬ (255 : Int32) < c) (hkca_ : ca_.length ≤ 4000) (pf_E_sb_ : Exa Z h0 sb_ "java/lang/String") (pf_F_sb__value : Fld Z h0 sb_ "java/lang/String" "value" "[B" (.ref vb_)) (pf_F_sb__coder : Fld Z h0 sb_ "java/lang/String" "coder" "B" (.int (0 : Int32))) (pf_A_vb_ : Av Z h0 vb_ .byte nb_ (own_vs cb_) (.int (0 : Int32))) (hncb_ : nb_ = Int32.ofNat cb_.length) (hrcb_ : ∀ c ∈ cb_, ¬ c < 0 ∧ ¬ (255 : Int32) < c) (hkcb_ : cb_.length ≤ 4000) (pf_E_sc_ : Exa Z h0 sc_ "java/lang/String") (pf_F_sc__value : Fld Z h0 sc_ "java/lang/String" "value" "[B" (.ref vc_)) (pf_F_sc__coder : Fld Z h0 sc_ "java/lang/String" "coder" "B" (.int (0 : Int32))) (pf_A_vc_ : Av Z h0 vc_ .byte nc_ (own_vs cc_) (.int (0 : Int32))) (hncc_ : nc_ = Int32.ofNat cc_.length) (hrcc_ : ∀ c ∈ cc_, ¬ c < 0 ∧ ¬ (255 : Int32) < c) (hkcc_ : cc_.length ≤ 4000) (pf_E_sd_ : Exa Z h0 sd_ "java/lang/String") (pf_F_sd__value : Fld Z h0 sd_ "java/lang/String" "value" "[B" (.ref vd_)) (pf_F_sd__coder : Fld Z h0 sd_ "java/lang/String" "coder" "B" (.int (0 : Int32))) (pf_A_vd_ : Av Z h0 vd_ .byte nd_ (own_vs cd_) (.int (0 : Int32))) (hncd_ : nd_ = Int32.ofNat cd_.length) (hrcd_ : ∀ c ∈ cd_, ¬ c < 0 ∧ ¬ (255 : Int32) < c) (hkcd_ : cd_.length ≤ 4000) :
    MetFree l (⟨"com/example/topiq/topiq/protocol/MessageQueue", "equals", "(Ljava/lang/Object;)Z"⟩ : MethodName) (head1 (Jvm.Cond.code (⟨"com/example/topiq/topiq/protocol/MessageQueue", "equals", "(Ljava/lang/Object;)Z"⟩ : MethodName) prog_40_method_7_code 3 (some .boolean) :: ws) ({ frames := 2, cells := 0, slots := 0, locals := 28 } : Room)) (fun a U => a = #[(.ref a12_0), (.ref ot)] ∧ Z.Warmed39 U.vm ∧ U.heap = h0) (fun _ _ _ _ _ => True) (fun _ U o U' => ∃ v L, o = .returned v ∧ Q_rmEq Z a12_0 ot sa_ va_ na_ ca_ sb_ vb_ nb_ cb_ sc_ vc_ nc_ cc_ sd_ vd_ nd_ cd_ ia_ ib_ cs h0 n0 v U'.heap L ∧ FrameEnd U o U' L ({ frames := 2, cells := 0, slots := 0, locals := 28 } : Room).cells ({ frames := 2, cells := 0, slots := 0, locals := 28 } : Room).slots) := by
  refine MetFree.of_bodySF (plainFor_of_name pn_com_example_topiq_topiq_protocol_MessageQueue) hisR ?_
  intro p e s m args below meth c s₁ Bd hml0 hP hK
  obtain ⟨rfl, hZ, hh⟩ := hP
  have hx := Bd.exec
  have hby := Bd.bytes
  have hml : c.maxLocals = 3 := hml0
  have hown : s.vm.findClass "com/example/topiq/topiq/protocol/MessageQueue" = some m.cls := findClass_of_methodNamed Bd.named
  have hnm := (name_of_methodNamed Bd.named Bd.method).1
  have X0 : Stand p l e ({ frames := 2, cells := 0, slots := 0, locals := 28 } : Room) s m #[(.ref a12_0), (.ref ot)] below meth c s₁ [] 0 0 := Stand.of_body Bd
  have e0 : s₁.heap = h0 := by rw [← hh, Bd.state]; rfl
  have N0 := Fr.nil n0
  have pre0 : ∀ t, Steps p.tables e below (s₁.setTop (mkF m 0 #[rv a12_0, rv ot, .unset] [])) t → Steps p.tables e below (s₁.setTop (entryFrame m #[(.ref a12_0), (.ref ot)] 3)) t := fun t k => castTop (ef_rmEq m a12_0 ot) k
  have wo13 := hw _ (List.mem_of_getElem? (i := 13) rfl)
  have wo49 := hw _ (List.mem_of_getElem? (i := 49) rfl)
  have wo51 := hw _ (List.mem_of_getElem? (i := 51) rfl)
  have wo53 := hw _ (List.mem_of_getElem? (i := 53) rfl)
  have wo63 := hw _ (List.mem_of_getElem? (i := 63) rfl)
  have wo65 := hw _ (List.mem_of_getElem? (i := 65) rfl)
  have wo66 := hw _ (List.mem_of_getElem? (i := 66) rfl)
  have wo67 := hw _ (List.mem_of_getElem? (i := 67) rfl)
  have wo68 := hw _ (List.mem_of_getElem? (i := 68) rfl)
  obtain ⟨T1, X1, e1, st1⟩ := instY X0 hx hZ hown wo63 e0 (Ins.self pf_E_ot) (g := (mkF m 1 #[rv a12_0, rv ot, .unset] [(.ref ot)])) rfl rfl (hb hby d12_1)
  obtain ⟨T2, X2, e2, st2⟩ := castY X1 hx hZ hown wo63 e1 (Ins.self pf_E_ot) (g := (mkF m 8 #[rv a12_0, rv ot, .unset] [(.ref ot)])) rfl rfl (hb hby d12_8)
  obtain ⟨T3, X3, e3, st3⟩ := getF X2 hx hZ hown (host := "") (Or.inl wo49) Via.refl e2 pf_F_a12_0_topic (g := (mkF m 13 #[rv a12_0, rv ot, rv ot] [(.ref a12_0)])) rfl rfl (hb hby d12_13)
  obtain ⟨T4, X4, e4, st4⟩ := getF X3 hx hZ hown (host := "") (Or.inl wo49) Via.refl e3 pf_F_ot_topic (g := (mkF m 17 #[rv a12_0, rv ot, rv ot] [(.ref ot), (.ref sa_)])) rfl rfl (hb hby d12_17)
  obtain ⟨kv6, hv7⟩ := id pf_A_va_
  obtain ⟨kv8, hv9⟩ := id pf_A_vb_
  have hws5 : ∀ d ∈ StrChars.Road.wordsEq, d.before a0 Z = true := fun d hd => hw d ((by decide +kernel : ∀ d ∈ StrChars.Road.wordsEq, d ∈ tables_1) d hd)
  obtain ⟨cq5, kq5, q5a, q5b, q5c⟩ := isOf hZ e4 pf_E_sa_
  obtain ⟨_, _, ⟨T5, L5, k5, n5⟩, -, X5, ⟨Lc5, hQ5, l5, y5, z5⟩, st5⟩ := X4.virtualBack hx (y := MN13) (z := MN13) hown (mvT hZ wo65) (mvT hZ wo66) (notFace_of_selects (args := #[]) (mvT hZ wo68)) (mvT hZ wo68) (mvT hZ wo67) (by decide) (StrChars.Road.eqW (W := 0) hZ hws5 (kI := 4) wo13 pf_E_sa_ pf_F_sa__value pf_F_sa__coder hv7 (own_cod hnca_ hrca_) (own_wid hrca_) hkca_ pf_E_sb_ pf_F_sb__value pf_F_sb__coder hv9 (own_cod hncb_ hrcb_) (own_wid hrcb_) hkcb_ (pf_S_java_lang_String_COMPACT_STRINGS.ext pf_O.2) hcs (by decide) (by decide)) q5a q5c (g := (mkF m 20 #[rv a12_0, rv ot, rv ot] [(.ref sb_), (.ref sa_)])) rfl (by rw [hml]; rfl) (Steps.refl _) (argsL := [(.ref sb_)]) (rest := []) (lenOf pd_5 rfl) rfl (by show 2 * 0 + _ ≤ _; exact Nat.le_of_eq rfl) (hb hby d12_20) (fun _ _ => ⟨rfl, e4, (by decide : 0 + 0 ≤ _), (by decide : 0 + 0 ≤ _)⟩)
  dsimp only [Pt.U, Pt.locs, Pt.cells, Pt.slots] at X5 l5 y5 z5 st5 hQ5
  rw [l5, y5, z5] at X5
  obtain ⟨hv5, hl5, K5q⟩ := hQ5
  rw [hl5, List.append_nil] at X5
  obtain rfl := own_pick hv5
  have pre10 : ∀ t, Steps p.tables e below (T5.setTop (mkF m 23 #[rv a12_0, rv ot, rv ot] [(.int (if ca_ = cb_ then (1 : Int32) else (0 : Int32)))])) t → Steps p.tables e below (s₁.setTop (entryFrame m #[(.ref a12_0), (.ref ot)] 3)) t := by
    intro t_ k_
    refine pre0 _ ?_
    show Steps p.tables e below (s₁.setTop (mkF m 0 #[rv a12_0, rv ot, .unset] [])) _
    refine XS.aloadN X0.here hx rfl (hb hby d12_0) rfl rfl ?_
    show Steps p.tables e below (s₁.setTop (mkF m 1 #[rv a12_0, rv ot, .unset] [(.ref ot)])) _
    refine st1 _ ?_
    show Steps p.tables e below (T1.setTop (mkF m 4 #[rv a12_0, rv ot, .unset] [(.int (1 : Int32))])) _
    refine XS.ifNo X1.here hx rfl (hb hby d12_4) rfl ((if0 _ _).trans (feq (by decide : ¬ ((1 : Int32) = (0 : Int32)))).1) ?_
    show Steps p.tables e below (T1.setTop (mkF m 7 #[rv a12_0, rv ot, .unset] [])) _
    refine XS.aloadN X1.here hx rfl (hb hby d12_7) rfl rfl ?_
    show Steps p.tables e below (T1.setTop (mkF m 8 #[rv a12_0, rv ot, .unset] [(.ref ot)])) _
    refine st2 _ ?_
    show Steps p.tables e below (T2.setTop (mkF m 11 #[rv a12_0, rv ot, .unset] [(.ref ot)])) _
    refine XS.astoreN X2.here hx rfl (hb hby d12_11) rfl rfl (l' := #[rv a12_0, rv ot, rv ot]) rfl ?_
    show Steps p.tables e below (T2.setTop (mkF m 12 #[rv a12_0, rv ot, rv ot] [])) _
    refine XS.aloadN X2.here hx rfl (hb hby d12_12) rfl rfl ?_
    show Steps p.tables e below (T2.setTop (mkF m 13 #[rv a12_0, rv ot, rv ot] [(.ref a12_0)])) _
    refine st3 _ ?_
    show Steps p.tables e below (T3.setTop (mkF m 16 #[rv a12_0, rv ot, rv ot] [(.ref sa_)])) _
    refine XS.aloadN X3.here hx rfl (hb hby d12_16) rfl rfl ?_
    show Steps p.tables e below (T3.setTop (mkF m 17 #[rv a12_0, rv ot, rv ot] [(.ref ot), (.ref sa_)])) _
    refine st4 _ ?_
    show Steps p.tables e below (T4.setTop (mkF m 20 #[rv a12_0, rv ot, rv ot] [(.ref sb_), (.ref sa_)])) _
    refine st5.trans ?_
    exact k_
  by_cases hb11 : ca_ = cb_
  · skip
    have q12 : (if ca_ = cb_ then (1 : Int32) else (0 : Int32)) = (1 : Int32) := if_pos hb11
    obtain ⟨T13, X13, e13, st13⟩ := getF X5 hx hZ hown (host := "") (Or.inl wo51) Via.refl K5q pf_F_a12_0_brokerName (g := (mkF m 27 #[rv a12_0, rv ot, rv ot] [(.ref a12_0)])) rfl rfl (hb hby d12_27)
    obtain ⟨T14, X14, e14, st14⟩ := getF X13 hx hZ hown (host := "") (Or.inl wo51) Via.refl e13 pf_F_ot_brokerName (g := (mkF m 31 #[rv a12_0, rv ot, rv ot] [(.ref ot), (.ref sc_)])) rfl rfl (hb hby d12_31)
    obtain ⟨kv16, hv17⟩ := id pf_A_vc_
    obtain ⟨kv18, hv19⟩ := id pf_A_vd_
    have hws15 : ∀ d ∈ StrChars.Road.wordsEq, d.before a0 Z = true := fun d hd => hw d ((by decide +kernel : ∀ d ∈ StrChars.Road.wordsEq, d ∈ tables_1) d hd)
    obtain ⟨cq15, kq15, q15a, q15b, q15c⟩ := isOf hZ e14 pf_E_sc_
    obtain ⟨_, _, ⟨T15, L15, k15, n15⟩, -, X15, ⟨Lc15, hQ15, l15, y15, z15⟩, st15⟩ := X14.virtualBack hx (y := MN13) (z := MN13) hown (mvT hZ wo65) (mvT hZ wo66) (notFace_of_selects (args := #[]) (mvT hZ wo68)) (mvT hZ wo68) (mvT hZ wo67) (by decide) (StrChars.Road.eqW (W := 0) hZ hws15 (kI := 4) wo13 pf_E_sc_ pf_F_sc__value pf_F_sc__coder hv17 (own_cod hncc_ hrcc_) (own_wid hrcc_) hkcc_ pf_E_sd_ pf_F_sd__value pf_F_sd__coder hv19 (own_cod hncd_ hrcd_) (own_wid hrcd_) hkcd_ (pf_S_java_lang_String_COMPACT_STRINGS.ext pf_O.2) hcs (by decide) (by decide)) q15a q15c (g := (mkF m 34 #[rv a12_0, rv ot, rv ot] [(.ref sd_), (.ref sc_)])) rfl (by rw [hml]; rfl) (Steps.refl _) (argsL := [(.ref sd_)]) (rest := []) (lenOf pd_5 rfl) rfl (by show 2 * 0 + _ ≤ _; exact Nat.le_of_eq rfl) (hb hby d12_34) (fun _ _ => ⟨rfl, e14, (by decide : 0 + 0 ≤ _), (by decide : 0 + 0 ≤ _)⟩)
    dsimp only [Pt.U, Pt.locs, Pt.cells, Pt.slots] at X15 l15 y15 z15 st15 hQ15
    rw [l15, y15, z15] at X15
    obtain ⟨hv15, hl15, K15q⟩ := hQ15
    rw [hl15, List.append_nil] at X15
    obtain rfl := own_pick hv15
    have pre20 : ∀ t, Steps p.tables e below (T15.setTop (mkF m 37 #[rv a12_0, rv ot, rv ot] [(.int (if cc_ = cd_ then (1 : Int32) else (0 : Int32)))])) t → Steps p.tables e below (s₁.setTop (entryFrame m #[(.ref a12_0), (.ref ot)] 3)) t := by
      intro t_ k_
      refine pre10 _ ?_
      show Steps p.tables e below (T5.setTop (mkF m 23 #[rv a12_0, rv ot, rv ot] [(.int (if ca_ = cb_ then (1 : Int32) else (0 : Int32)))])) _
      rw [q12]
      show Steps p.tables e below (T5.setTop (mkF m 23 #[rv a12_0, rv ot, rv ot] [(.int (1 : Int32))])) _
      show Steps p.tables e below (T5.setTop (mkF m 23 #[rv a12_0, rv ot, rv ot] [(.int (1 : Int32))])) _
      refine XS.ifNo X5.here hx rfl (hb hby d12_23) rfl ((if0 _ _).trans (feq (by decide : ¬ ((1 : Int32) = (0 : Int32)))).1) ?_
      show Steps p.tables e below (T5.setTop (mkF m 26 #[rv a12_0, rv ot, rv ot] [])) _
      refine XS.aloadN X5.here hx rfl (hb hby d12_26) rfl rfl ?_
      show Steps p.tables e below (T5.setTop (mkF m 27 #[rv a12_0, rv ot, rv ot] [(.ref a12_0)])) _
      refine st13 _ ?_
      show Steps p.tables e below (T13.setTop (mkF m 30 #[rv a12_0, rv ot, rv ot] [(.ref sc_)])) _
      refine XS.aloadN X13.here hx rfl (hb hby d12_30) rfl rfl ?_
      show Steps p.tables e below (T13.setTop (mkF m 31 #[rv a12_0, rv ot, rv ot] [(.ref ot), (.ref sc_)])) _
      refine st14 _ ?_
      show Steps p.tables e below (T14.setTop (mkF m 34 #[rv a12_0, rv ot, rv ot] [(.ref sd_), (.ref sc_)])) _
      refine st15.trans ?_
      exact k_
    by_cases hb21 : cc_ = cd_
    · skip
      have q22 : (if cc_ = cd_ then (1 : Int32) else (0 : Int32)) = (1 : Int32) := if_pos hb21
      obtain ⟨T23, X23, e23, st23⟩ := getF X15 hx hZ hown (host := "") (Or.inl wo53) Via.refl K15q pf_F_a12_0_queueId (g := (mkF m 41 #[rv a12_0, rv ot, rv ot] [(.ref a12_0)])) rfl rfl (hb hby d12_41)
      obtain ⟨T24, X24, e24, st24⟩ := getF X23 hx hZ hown (host := "") (Or.inl wo53) Via.refl e23 pf_F_ot_queueId (g := (mkF m 45 #[rv a12_0, rv ot, rv ot] [(.ref ot), (.int ia_)])) rfl rfl (hb hby d12_45)
      have pre26 : ∀ t, Steps p.tables e below (T24.setTop (mkF m 48 #[rv a12_0, rv ot, rv ot] [(.int ib_), (.int ia_)])) t → Steps p.tables e below (s₁.setTop (entryFrame m #[(.ref a12_0), (.ref ot)] 3)) t := by
        intro t_ k_
        refine pre20 _ ?_
        show Steps p.tables e below (T15.setTop (mkF m 37 #[rv a12_0, rv ot, rv ot] [(.int (if cc_ = cd_ then (1 : Int32) else (0 : Int32)))])) _
        rw [q22]
        show Steps p.tables e below (T15.setTop (mkF m 37 #[rv a12_0, rv ot, rv ot] [(.int (1 : Int32))])) _
        show Steps p.tables e below (T15.setTop (mkF m 37 #[rv a12_0, rv ot, rv ot] [(.int (1 : Int32))])) _
        refine XS.ifNo X15.here hx rfl (hb hby d12_37) rfl ((if0 _ _).trans (feq (by decide : ¬ ((1 : Int32) = (0 : Int32)))).1) ?_
        show Steps p.tables e below (T15.setTop (mkF m 40 #[rv a12_0, rv ot, rv ot] [])) _
        refine XS.aloadN X15.here hx rfl (hb hby d12_40) rfl rfl ?_
        show Steps p.tables e below (T15.setTop (mkF m 41 #[rv a12_0, rv ot, rv ot] [(.ref a12_0)])) _
        refine st23 _ ?_
        show Steps p.tables e below (T23.setTop (mkF m 44 #[rv a12_0, rv ot, rv ot] [(.int ia_)])) _
        refine XS.aloadN X23.here hx rfl (hb hby d12_44) rfl rfl ?_
        show Steps p.tables e below (T23.setTop (mkF m 45 #[rv a12_0, rv ot, rv ot] [(.ref ot), (.int ia_)])) _
        refine st24 _ ?_
        exact k_
      by_cases hc48_25 : ia_ = ib_
      · skip
        obtain ⟨fs, hr, hrun, hended, hW, hsame⟩ := X24.leave (v := some (.int (1 : Int32))) (fun h => by rw [Bd.returns] at h; cases h)
        refine ⟨_, _, pre26 _ ?_, hrun, hended, _, _, rfl, ?_, ⟨_, rfl⟩, hW, hsame.mono (by decide) (by decide)⟩
        · show Steps p.tables e below (T24.setTop (mkF m 48 #[rv a12_0, rv ot, rv ot] [(.int ib_), (.int ia_)])) _
          refine XS.icmpNo X24.here hx rfl (hb hby d12_48) rfl (teq hc48_25).2 ?_
          show Steps p.tables e below (T24.setTop (mkF m 51 #[rv a12_0, rv ot, rv ot] [])) _
          refine XS.iconst X24.here hx rfl (hb hby d12_51) ?_
          show Steps p.tables e below (T24.setTop (mkF m 52 #[rv a12_0, rv ot, rv ot] [(.int (1 : Int32))])) _
          refine XS.goto X24.here hx rfl (pc0 := 52) (pc' := 56) rfl (hb hby d12_52) (by decide) (by decide) ?_
          show Steps p.tables e below (T24.setTop (mkF m 56 #[rv a12_0, rv ot, rv ot] [(.int (1 : Int32))])) _
          exact retN X24 hx (t := .boolean) Bd.returns (by simp) (hb hby d12_56) hr
        · show Q_rmEq Z _ _ _ _ _ _ _ _ _ _ _ _ _ _ _ _ _ _ _ _ _ h0 n0 _ T24.heap _
          rw [e24]
          exact ⟨(by show some (Value.int _) = some (Value.int _); congr 2; exact (if_pos ⟨hb11, hb21, hc48_25⟩).symm), N0, rfl⟩
      · skip
        obtain ⟨fs, hr, hrun, hended, hW, hsame⟩ := X24.leave (v := some (.int (0 : Int32))) (fun h => by rw [Bd.returns] at h; cases h)
        refine ⟨_, _, pre26 _ ?_, hrun, hended, _, _, rfl, ?_, ⟨_, rfl⟩, hW, hsame.mono (by decide) (by decide)⟩
        · show Steps p.tables e below (T24.setTop (mkF m 48 #[rv a12_0, rv ot, rv ot] [(.int ib_), (.int ia_)])) _
          refine XS.icmpYes X24.here hx rfl (pc0 := 48) (pc' := 55) rfl (hb hby d12_48) rfl (feq hc48_25).2 (by decide) (by decide) ?_
          show Steps p.tables e below (T24.setTop (mkF m 55 #[rv a12_0, rv ot, rv ot] [])) _
          refine XS.iconst X24.here hx rfl (hb hby d12_55) ?_
          show Steps p.tables e below (T24.setTop (mkF m 56 #[rv a12_0, rv ot, rv ot] [(.int (0 : Int32))])) _
          exact retN X24 hx (t := .boolean) Bd.returns (by simp) (hb hby d12_56) hr
        · show Q_rmEq Z _ _ _ _ _ _ _ _ _ _ _ _ _ _ _ _ _ _ _ _ _ h0 n0 _ T24.heap _
          rw [e24]
          exact ⟨(by show some (Value.int _) = some (Value.int _); congr 2; exact (if_neg (fun q => hc48_25 q.2.2)).symm), N0, rfl⟩
    · skip
      have q27 : (if cc_ = cd_ then (1 : Int32) else (0 : Int32)) = (0 : Int32) := if_neg hb21
      obtain ⟨fs, hr, hrun, hended, hW, hsame⟩ := X15.leave (v := some (.int (0 : Int32))) (fun h => by rw [Bd.returns] at h; cases h)
      refine ⟨_, _, pre20 _ ?_, hrun, hended, _, _, rfl, ?_, ⟨_, rfl⟩, hW, hsame.mono (by decide) (by decide)⟩
      · show Steps p.tables e below (T15.setTop (mkF m 37 #[rv a12_0, rv ot, rv ot] [(.int (if cc_ = cd_ then (1 : Int32) else (0 : Int32)))])) _
        rw [q27]
        show Steps p.tables e below (T15.setTop (mkF m 37 #[rv a12_0, rv ot, rv ot] [(.int (0 : Int32))])) _
        show Steps p.tables e below (T15.setTop (mkF m 37 #[rv a12_0, rv ot, rv ot] [(.int (0 : Int32))])) _
        refine XS.ifYes X15.here hx rfl (pc0 := 37) (pc' := 55) rfl (hb hby d12_37) rfl ((if0 _ _).trans (teq (by decide : (0 : Int32) = (0 : Int32))).1) (by decide) (by decide) ?_
        show Steps p.tables e below (T15.setTop (mkF m 55 #[rv a12_0, rv ot, rv ot] [])) _
        refine XS.iconst X15.here hx rfl (hb hby d12_55) ?_
        show Steps p.tables e below (T15.setTop (mkF m 56 #[rv a12_0, rv ot, rv ot] [(.int (0 : Int32))])) _
        exact retN X15 hx (t := .boolean) Bd.returns (by simp) (hb hby d12_56) hr
      · show Q_rmEq Z _ _ _ _ _ _ _ _ _ _ _ _ _ _ _ _ _ _ _ _ _ h0 n0 _ T15.heap _
        rw [K15q]
        exact ⟨(by show some (Value.int _) = some (Value.int _); congr 2; exact (if_neg (fun q => hb21 q.2.1)).symm), N0, rfl⟩
  · skip
    have q28 : (if ca_ = cb_ then (1 : Int32) else (0 : Int32)) = (0 : Int32) := if_neg hb11
    obtain ⟨fs, hr, hrun, hended, hW, hsame⟩ := X5.leave (v := some (.int (0 : Int32))) (fun h => by rw [Bd.returns] at h; cases h)
    refine ⟨_, _, pre10 _ ?_, hrun, hended, _, _, rfl, ?_, ⟨_, rfl⟩, hW, hsame.mono (by decide) (by decide)⟩
    · show Steps p.tables e below (T5.setTop (mkF m 23 #[rv a12_0, rv ot, rv ot] [(.int (if ca_ = cb_ then (1 : Int32) else (0 : Int32)))])) _
      rw [q28]
      show Steps p.tables e below (T5.setTop (mkF m 23 #[rv a12_0, rv ot, rv ot] [(.int (0 : Int32))])) _
      show Steps p.tables e below (T5.setTop (mkF m 23 #[rv a12_0, rv ot, rv ot] [(.int (0 : Int32))])) _
      refine XS.ifYes X5.here hx rfl (pc0 := 23) (pc' := 55) rfl (hb hby d12_23) rfl ((if0 _ _).trans (teq (by decide : (0 : Int32) = (0 : Int32))).1) (by decide) (by decide) ?_
      show Steps p.tables e below (T5.setTop (mkF m 55 #[rv a12_0, rv ot, rv ot] [])) _
      refine XS.iconst X5.here hx rfl (hb hby d12_55) ?_
      show Steps p.tables e below (T5.setTop (mkF m 56 #[rv a12_0, rv ot, rv ot] [(.int (0 : Int32))])) _
      exact retN X5 hx (t := .boolean) Bd.returns (by simp) (hb hby d12_56) hr
    · show Q_rmEq Z _ _ _ _ _ _ _ _ _ _ _ _ _ _ _ _ _ _ _ _ _ h0 n0 _ T5.heap _
      rw [K5q]
      exact ⟨(by show some (Value.int _) = some (Value.int _); congr 2; exact (if_neg (fun q => hb11 q.1)).symm), N0, rfl⟩
theorem pd_3 : parseMethodDescriptor "(J)I" = some ⟨[.long], some .int⟩ := by decide +kernel
theorem pd_4 : parseMethodDescriptor "(JI)I" = some ⟨[.long, .int], some .int⟩ := by decide +kernel
theorem pd_1 : parseMethodDescriptor "(III)Ljava/lang/String;" = some ⟨[.int, .int, .int], some (.object "java/lang/String")⟩ := by decide +kernel
theorem pd_6 : parseMethodDescriptor "(Ljava/lang/String;Ljava/lang/String;I)V" = some ⟨[(.object "java/lang/String"), (.object "java/lang/String"), .int], none⟩ := by decide +kernel
theorem pd_2 : parseMethodDescriptor "(IIIIII)Z" = some ⟨[.int, .int, .int, .int, .int, .int], some .boolean⟩ := by decide +kernel
theorem ef_rm0 (m : MethodId) (x0 : Int64) (x1 : Int64) (x2 : Int32) (x3 : Int32) (x4 : Int32) : entryFrame m #[(.long x0), (.long x1), (.int x2), (.int x3), (.int x4)] maxLocals = mkF m 0 #[.val (.long x0), .second, .val (.long x1), .second, iv x2, iv x3, iv x4, .unset, .unset, .unset, .unset, .unset, .unset, .unset, .unset, .unset, .unset, .unset, .unset, .unset, .unset, .unset, .unset, .unset, .unset, .unset, .unset, .unset, .unset, .unset, .unset, .unset] [] := by first | (simp [entryFrame, mkF, argsToLocals, Value.category, maxLocals]; done) | rfl
def Q_rm0 (Z : State) (p0_0 : Int64) (p0_1 : Int64) (p0_2 : Int32) (p0_3 : Int32) (p0_4 : Int32) (cs : Int32) (h0 : Heap) (n0 : Nat) (v : Option Value) (h : Heap) (L : List Loc) : Prop := v = some (.int (1 : Int32)) ∧ Fr n0 L ∧ Keep h0 h []
def own_FE (s : State) (o : Outcome) (t : State) (L : List Loc) (k n : Nat) : Prop := s.Warmed39 t.vm ∧ (∀ (j : Nat) (p : Array UInt16 × Addr), s.vm.interned.size ≤ j → t.vm.interned[j]? = some p → s.heap.size ≤ p.2 ∧ p.2 < t.heap.size) ∧ s.sameButNew { t with vm := s.vm } L k n
set_option maxRecDepth 65536 in
set_option maxHeartbeats 40000000 in
theorem rm0 (l : Launch) (Z : State) (a0 : Array Value) (hw : ∀ d ∈ tables_1, d.before a0 Z = true) (ws : List Jvm.Cond) (p0_0 : Int64) (p0_1 : Int64) (p0_2 : Int32) (p0_3 : Int32) (p0_4 : Int32) (cs : Int32) (h0 : Heap) (n0 : Nat) (Z0 : n0 ≤ h0.size) (pf_O : Old Z n0 h0) (pf_S_java_lang_String_COMPACT_STRINGS : Sta Z Z.heap "java/lang/String" "COMPACT_STRINGS" "Z" (.int cs)) (hcs : ¬ (cs = (0 : Int32))) :
    MetFree l x (head1 (Jvm.Cond.code x code maxLocals ret :: ws) room_1) (fun a U => a = #[(.long p0_0), (.long p0_1), (.int p0_2), (.int p0_3), (.int p0_4)] ∧ Z.Warmed39 U.vm ∧ U.heap = h0 ∧ CHv Z consts_1 U.vm h0) (fun _ _ _ _ _ => True) (fun _ U o U' => ∃ v L, o = .returned v ∧ Q_rm0 Z p0_0 p0_1 p0_2 p0_3 p0_4 cs h0 n0 v U'.heap L ∧ own_FE U o U' L room_1.cells room_1.slots) := by
  refine MetFree.of_bodySF (plainFor_of_name pn_com_example_topiq_topiq_protocol_MessageQueueEqualsPinLaw) hisR ?_
  intro p e s m args below meth c s₁ Bd hml0 hP hK
  obtain ⟨rfl, hZ, hh, CH0⟩ := hP
  have hx := Bd.exec
  have hby := Bd.bytes
  have hml : c.maxLocals = 32 := hml0
  have hown : s.vm.findClass "com/example/topiq/topiq/protocol/MessageQueueEqualsPinLaw" = some m.cls := findClass_of_methodNamed Bd.named
  have hnm := (name_of_methodNamed Bd.named Bd.method).1
  have X0 : Stand p l e room_1 s m #[(.long p0_0), (.long p0_1), (.int p0_2), (.int p0_3), (.int p0_4)] below meth c s₁ [] 0 0 := Stand.of_body Bd
  have e0 : s₁.heap = h0 := by rw [← hh, Bd.state]; rfl
  have N0 := Fr.nil n0
  have pre0 : ∀ t, Steps p.tables e below (s₁.setTop (mkF m 0 #[.val (.long p0_0), .second, .val (.long p0_1), .second, iv p0_2, iv p0_3, iv p0_4, .unset, .unset, .unset, .unset, .unset, .unset, .unset, .unset, .unset, .unset, .unset, .unset, .unset, .unset, .unset, .unset, .unset, .unset, .unset, .unset, .unset, .unset, .unset, .unset, .unset] [])) t → Steps p.tables e below (s₁.setTop (entryFrame m #[(.long p0_0), (.long p0_1), (.int p0_2), (.int p0_3), (.int p0_4)] maxLocals)) t := fun t k => castTop (ef_rm0 m p0_0 p0_1 p0_2 p0_3 p0_4) k
  have CR0 := CHr.refl CH0
  have hEL := own_EW hw
  have wo0 := hw _ (List.mem_of_getElem? (i := 0) rfl)
  have wo1 := hw _ (List.mem_of_getElem? (i := 1) rfl)
  have wo2 := hw _ (List.mem_of_getElem? (i := 2) rfl)
  have wo3 := hw _ (List.mem_of_getElem? (i := 3) rfl)
  have wo5 := hw _ (List.mem_of_getElem? (i := 5) rfl)
  have wo6 := hw _ (List.mem_of_getElem? (i := 6) rfl)
  have wo7 := hw _ (List.mem_of_getElem? (i := 7) rfl)
  have wo9 := hw _ (List.mem_of_getElem? (i := 9) rfl)
  have wo10 := hw _ (List.mem_of_getElem? (i := 10) rfl)
  have wo11 := hw _ (List.mem_of_getElem? (i := 11) rfl)
  have wo42 := hw _ (List.mem_of_getElem? (i := 42) rfl)
  have wo43 := hw _ (List.mem_of_getElem? (i := 43) rfl)
  have wo44 := hw _ (List.mem_of_getElem? (i := 44) rfl)
  have wo45 := hw _ (List.mem_of_getElem? (i := 45) rfl)
  have wo46 := hw _ (List.mem_of_getElem? (i := 46) rfl)
  have wo47 := hw _ (List.mem_of_getElem? (i := 47) rfl)
  have wo50 := hw _ (List.mem_of_getElem? (i := 50) rfl)
  have wo52 := hw _ (List.mem_of_getElem? (i := 52) rfl)
  have wo54 := hw _ (List.mem_of_getElem? (i := 54) rfl)
  have wo55 := hw _ (List.mem_of_getElem? (i := 55) rfl)
  have wo56 := hw _ (List.mem_of_getElem? (i := 56) rfl)
  have wo57 := hw _ (List.mem_of_getElem? (i := 57) rfl)
  have wo58 := hw _ (List.mem_of_getElem? (i := 58) rfl)
  have wo59 := hw _ (List.mem_of_getElem? (i := 59) rfl)
  have wo60 := hw _ (List.mem_of_getElem? (i := 60) rfl)
  have wo61 := hw _ (List.mem_of_getElem? (i := 61) rfl)
  have wo62 := hw _ (List.mem_of_getElem? (i := 62) rfl)
  obtain ⟨_, _, ⟨T1, L1, k1, n1⟩, -, X1, ⟨Lc1, hQ1, l1, y1, z1⟩, st1⟩ := Jvm.LawKit.callS X0 hx (y := MN1) hown (mvT hZ wo0) (mvT hZ wo1) (mvT hZ wo2) (mvT hZ wo3) (by decide) (backOf (W := 0) (rm1 l Z a0 hw [] p0_0 h0 n0 Z0 ) hZ wo3 wo2 (by decide) (by decide)) (g := (mkF m 1 #[.val (.long p0_0), .second, .val (.long p0_1), .second, iv p0_2, iv p0_3, iv p0_4, .unset, .unset, .unset, .unset, .unset, .unset, .unset, .unset, .unset, .unset, .unset, .unset, .unset, .unset, .unset, .unset, .unset, .unset, .unset, .unset, .unset, .unset, .unset, .unset, .unset] [(.long p0_0)])) rfl (by rw [hml]; rfl) (argsL := [(.long p0_0)]) (rest := []) (lenOf pd_3 rfl) rfl (by show 2 * 0 + _ ≤ _; exact Nat.le_of_eq rfl) (hb hby at_1) (fun _ _ => ⟨rfl, e0, (by decide : 0 + 0 ≤ _), (by decide : 0 + 0 ≤ _)⟩)
  dsimp only [Pt.U, Pt.locs, Pt.cells, Pt.slots] at X1 l1 y1 z1 st1 hQ1
  rw [l1, y1, z1] at X1
  obtain ⟨rfl, N1q, K1q⟩ := hQ1
  have N2 := Fr.app N0 N1q
  obtain ⟨tla, h_tla⟩ : ∃ z : Int32, z = (own_len p0_0) := ⟨_, rfl⟩
  have h3tla : tla = 0 ∨ tla = 1 ∨ tla = 2 := by rw [h_tla]; exact own_len3 _
  obtain ⟨_, _, ⟨T3, L3, k3, n3⟩, -, X3, ⟨Lc3, hQ3, l3, y3, z3⟩, st3⟩ := Jvm.LawKit.callS X1 hx (y := MN2) hown (mvT hZ wo5) (mvT hZ wo6) (mvT hZ wo2) (mvT hZ wo7) (by decide) (backOf (W := 0) (rm2 l Z a0 hw [] p0_0 (2 : Int32) h0 n0 Z0 ) hZ wo7 wo2 (by decide) (by decide)) (g := (mkF m 8 #[.val (.long p0_0), .second, .val (.long p0_1), .second, iv p0_2, iv p0_3, iv p0_4, iv tla, .unset, .unset, .unset, .unset, .unset, .unset, .unset, .unset, .unset, .unset, .unset, .unset, .unset, .unset, .unset, .unset, .unset, .unset, .unset, .unset, .unset, .unset, .unset, .unset] [(.int (2 : Int32)), (.long p0_0)])) rfl (by rw [hml]; rfl) (argsL := [(.long p0_0), (.int (2 : Int32))]) (rest := []) (lenOf pd_4 rfl) rfl (by show 2 * 0 + _ ≤ _; exact Nat.le_of_eq rfl) (hb hby at_8) (fun _ _ => ⟨rfl, K1q, (by decide : 0 + 0 ≤ _), (by decide : 0 + 0 ≤ _)⟩)
  dsimp only [Pt.U, Pt.locs, Pt.cells, Pt.slots] at X3 l3 y3 z3 st3 hQ3
  rw [l3, y3, z3] at X3
  obtain ⟨rfl, N3q, K3q⟩ := hQ3
  have N4 := Fr.app N2 N3q
  obtain ⟨ta0, h_ta0⟩ : ∃ z : Int32, z = (((p0_0.toUInt64 >>> ((2 : Int32) &&& 0x3f).toInt64.toUInt64).toInt64 &&& (255 : Int64)).toInt32) := ⟨_, rfl⟩
  have hrta0 : ¬ ta0 < 0 ∧ ¬ (255 : Int32) < ta0 := by rw [h_ta0]; exact own_chr _
  obtain ⟨_, _, ⟨T5, L5, k5, n5⟩, -, X5, ⟨Lc5, hQ5, l5, y5, z5⟩, st5⟩ := Jvm.LawKit.callS X3 hx (y := MN2) hown (mvT hZ wo5) (mvT hZ wo6) (mvT hZ wo2) (mvT hZ wo7) (by decide) (backOf (W := 0) (rm2 l Z a0 hw [] p0_0 (10 : Int32) h0 n0 Z0 ) hZ wo7 wo2 (by decide) (by decide)) (g := (mkF m 16 #[.val (.long p0_0), .second, .val (.long p0_1), .second, iv p0_2, iv p0_3, iv p0_4, iv tla, iv ta0, .unset, .unset, .unset, .unset, .unset, .unset, .unset, .unset, .unset, .unset, .unset, .unset, .unset, .unset, .unset, .unset, .unset, .unset, .unset, .unset, .unset, .unset, .unset] [(.int (10 : Int32)), (.long p0_0)])) rfl (by rw [hml]; rfl) (argsL := [(.long p0_0), (.int (10 : Int32))]) (rest := []) (lenOf pd_4 rfl) rfl (by show 2 * 0 + _ ≤ _; exact Nat.le_of_eq rfl) (hb hby at_16) (fun _ _ => ⟨rfl, K3q, (by decide : 0 + 0 ≤ _), (by decide : 0 + 0 ≤ _)⟩)
  dsimp only [Pt.U, Pt.locs, Pt.cells, Pt.slots] at X5 l5 y5 z5 st5 hQ5
  rw [l5, y5, z5] at X5
  obtain ⟨rfl, N5q, K5q⟩ := hQ5
  have N6 := Fr.app N4 N5q
  obtain ⟨ta1, h_ta1⟩ : ∃ z : Int32, z = (((p0_0.toUInt64 >>> ((10 : Int32) &&& 0x3f).toInt64.toUInt64).toInt64 &&& (255 : Int64)).toInt32) := ⟨_, rfl⟩
  have hrta1 : ¬ ta1 < 0 ∧ ¬ (255 : Int32) < ta1 := by rw [h_ta1]; exact own_chr _
  have pre7 : ∀ t, Steps p.tables e below (T5.setTop (mkF m 25 #[.val (.long p0_0), .second, .val (.long p0_1), .second, iv p0_2, iv p0_3, iv p0_4, iv tla, iv ta0, iv ta1, .unset, .unset, .unset, .unset, .unset, .unset, .unset, .unset, .unset, .unset, .unset, .unset, .unset, .unset, .unset, .unset, .unset, .unset, .unset, .unset, .unset, .unset] [(.int (p0_4 &&& (1 : Int32)))])) t → Steps p.tables e below (s₁.setTop (entryFrame m #[(.long p0_0), (.long p0_1), (.int p0_2), (.int p0_3), (.int p0_4)] maxLocals)) t := by
    intro t_ k_
    refine pre0 _ ?_
    show Steps p.tables e below (s₁.setTop (mkF m 0 #[.val (.long p0_0), .second, .val (.long p0_1), .second, iv p0_2, iv p0_3, iv p0_4, .unset, .unset, .unset, .unset, .unset, .unset, .unset, .unset, .unset, .unset, .unset, .unset, .unset, .unset, .unset, .unset, .unset, .unset, .unset, .unset, .unset, .unset, .unset, .unset, .unset] [])) _
    refine XS.lloadN X0.here hx rfl (hb hby at_0) rfl ?_
    show Steps p.tables e below (s₁.setTop (mkF m 1 #[.val (.long p0_0), .second, .val (.long p0_1), .second, iv p0_2, iv p0_3, iv p0_4, .unset, .unset, .unset, .unset, .unset, .unset, .unset, .unset, .unset, .unset, .unset, .unset, .unset, .unset, .unset, .unset, .unset, .unset, .unset, .unset, .unset, .unset, .unset, .unset, .unset] [(.long p0_0)])) _
    refine st1 _ ?_
    show Steps p.tables e below (T1.setTop (mkF m 4 #[.val (.long p0_0), .second, .val (.long p0_1), .second, iv p0_2, iv p0_3, iv p0_4, .unset, .unset, .unset, .unset, .unset, .unset, .unset, .unset, .unset, .unset, .unset, .unset, .unset, .unset, .unset, .unset, .unset, .unset, .unset, .unset, .unset, .unset, .unset, .unset, .unset] [(.int (own_len p0_0))])) _
    rw [← h_tla]
    show Steps p.tables e below (T1.setTop (mkF m 4 #[.val (.long p0_0), .second, .val (.long p0_1), .second, iv p0_2, iv p0_3, iv p0_4, .unset, .unset, .unset, .unset, .unset, .unset, .unset, .unset, .unset, .unset, .unset, .unset, .unset, .unset, .unset, .unset, .unset, .unset, .unset, .unset, .unset, .unset, .unset, .unset, .unset] [(.int tla)])) _
    show Steps p.tables e below (T1.setTop (mkF m 4 #[.val (.long p0_0), .second, .val (.long p0_1), .second, iv p0_2, iv p0_3, iv p0_4, .unset, .unset, .unset, .unset, .unset, .unset, .unset, .unset, .unset, .unset, .unset, .unset, .unset, .unset, .unset, .unset, .unset, .unset, .unset, .unset, .unset, .unset, .unset, .unset, .unset] [(.int tla)])) _
    refine XS.istore X1.here hx rfl (hb hby at_4) rfl (l' := #[.val (.long p0_0), .second, .val (.long p0_1), .second, iv p0_2, iv p0_3, iv p0_4, iv tla, .unset, .unset, .unset, .unset, .unset, .unset, .unset, .unset, .unset, .unset, .unset, .unset, .unset, .unset, .unset, .unset, .unset, .unset, .unset, .unset, .unset, .unset, .unset, .unset]) rfl ?_
    show Steps p.tables e below (T1.setTop (mkF m 6 #[.val (.long p0_0), .second, .val (.long p0_1), .second, iv p0_2, iv p0_3, iv p0_4, iv tla, .unset, .unset, .unset, .unset, .unset, .unset, .unset, .unset, .unset, .unset, .unset, .unset, .unset, .unset, .unset, .unset, .unset, .unset, .unset, .unset, .unset, .unset, .unset, .unset] [])) _
    refine XS.lloadN X1.here hx rfl (hb hby at_6) rfl ?_
    show Steps p.tables e below (T1.setTop (mkF m 7 #[.val (.long p0_0), .second, .val (.long p0_1), .second, iv p0_2, iv p0_3, iv p0_4, iv tla, .unset, .unset, .unset, .unset, .unset, .unset, .unset, .unset, .unset, .unset, .unset, .unset, .unset, .unset, .unset, .unset, .unset, .unset, .unset, .unset, .unset, .unset, .unset, .unset] [(.long p0_0)])) _
    refine XS.iconst X1.here hx rfl (hb hby at_7) ?_
    show Steps p.tables e below (T1.setTop (mkF m 8 #[.val (.long p0_0), .second, .val (.long p0_1), .second, iv p0_2, iv p0_3, iv p0_4, iv tla, .unset, .unset, .unset, .unset, .unset, .unset, .unset, .unset, .unset, .unset, .unset, .unset, .unset, .unset, .unset, .unset, .unset, .unset, .unset, .unset, .unset, .unset, .unset, .unset] [(.int (2 : Int32)), (.long p0_0)])) _
    refine st3 _ ?_
    show Steps p.tables e below (T3.setTop (mkF m 11 #[.val (.long p0_0), .second, .val (.long p0_1), .second, iv p0_2, iv p0_3, iv p0_4, iv tla, .unset, .unset, .unset, .unset, .unset, .unset, .unset, .unset, .unset, .unset, .unset, .unset, .unset, .unset, .unset, .unset, .unset, .unset, .unset, .unset, .unset, .unset, .unset, .unset] [(.int (((p0_0.toUInt64 >>> ((2 : Int32) &&& 0x3f).toInt64.toUInt64).toInt64 &&& (255 : Int64)).toInt32))])) _
    rw [← h_ta0]
    show Steps p.tables e below (T3.setTop (mkF m 11 #[.val (.long p0_0), .second, .val (.long p0_1), .second, iv p0_2, iv p0_3, iv p0_4, iv tla, .unset, .unset, .unset, .unset, .unset, .unset, .unset, .unset, .unset, .unset, .unset, .unset, .unset, .unset, .unset, .unset, .unset, .unset, .unset, .unset, .unset, .unset, .unset, .unset] [(.int ta0)])) _
    show Steps p.tables e below (T3.setTop (mkF m 11 #[.val (.long p0_0), .second, .val (.long p0_1), .second, iv p0_2, iv p0_3, iv p0_4, iv tla, .unset, .unset, .unset, .unset, .unset, .unset, .unset, .unset, .unset, .unset, .unset, .unset, .unset, .unset, .unset, .unset, .unset, .unset, .unset, .unset, .unset, .unset, .unset, .unset] [(.int ta0)])) _
    refine XS.istore X3.here hx rfl (hb hby at_11) rfl (l' := #[.val (.long p0_0), .second, .val (.long p0_1), .second, iv p0_2, iv p0_3, iv p0_4, iv tla, iv ta0, .unset, .unset, .unset, .unset, .unset, .unset, .unset, .unset, .unset, .unset, .unset, .unset, .unset, .unset, .unset, .unset, .unset, .unset, .unset, .unset, .unset, .unset, .unset]) rfl ?_
    show Steps p.tables e below (T3.setTop (mkF m 13 #[.val (.long p0_0), .second, .val (.long p0_1), .second, iv p0_2, iv p0_3, iv p0_4, iv tla, iv ta0, .unset, .unset, .unset, .unset, .unset, .unset, .unset, .unset, .unset, .unset, .unset, .unset, .unset, .unset, .unset, .unset, .unset, .unset, .unset, .unset, .unset, .unset, .unset] [])) _
    refine XS.lloadN X3.here hx rfl (hb hby at_13) rfl ?_
    show Steps p.tables e below (T3.setTop (mkF m 14 #[.val (.long p0_0), .second, .val (.long p0_1), .second, iv p0_2, iv p0_3, iv p0_4, iv tla, iv ta0, .unset, .unset, .unset, .unset, .unset, .unset, .unset, .unset, .unset, .unset, .unset, .unset, .unset, .unset, .unset, .unset, .unset, .unset, .unset, .unset, .unset, .unset, .unset] [(.long p0_0)])) _
    refine XS.bipush X3.here hx rfl (hb hby at_14) ?_
    show Steps p.tables e below (T3.setTop (mkF m 16 #[.val (.long p0_0), .second, .val (.long p0_1), .second, iv p0_2, iv p0_3, iv p0_4, iv tla, iv ta0, .unset, .unset, .unset, .unset, .unset, .unset, .unset, .unset, .unset, .unset, .unset, .unset, .unset, .unset, .unset, .unset, .unset, .unset, .unset, .unset, .unset, .unset, .unset] [(.int (10 : Int32)), (.long p0_0)])) _
    refine st5 _ ?_
    show Steps p.tables e below (T5.setTop (mkF m 19 #[.val (.long p0_0), .second, .val (.long p0_1), .second, iv p0_2, iv p0_3, iv p0_4, iv tla, iv ta0, .unset, .unset, .unset, .unset, .unset, .unset, .unset, .unset, .unset, .unset, .unset, .unset, .unset, .unset, .unset, .unset, .unset, .unset, .unset, .unset, .unset, .unset, .unset] [(.int (((p0_0.toUInt64 >>> ((10 : Int32) &&& 0x3f).toInt64.toUInt64).toInt64 &&& (255 : Int64)).toInt32))])) _
    rw [← h_ta1]
    show Steps p.tables e below (T5.setTop (mkF m 19 #[.val (.long p0_0), .second, .val (.long p0_1), .second, iv p0_2, iv p0_3, iv p0_4, iv tla, iv ta0, .unset, .unset, .unset, .unset, .unset, .unset, .unset, .unset, .unset, .unset, .unset, .unset, .unset, .unset, .unset, .unset, .unset, .unset, .unset, .unset, .unset, .unset, .unset] [(.int ta1)])) _
    show Steps p.tables e below (T5.setTop (mkF m 19 #[.val (.long p0_0), .second, .val (.long p0_1), .second, iv p0_2, iv p0_3, iv p0_4, iv tla, iv ta0, .unset, .unset, .unset, .unset, .unset, .unset, .unset, .unset, .unset, .unset, .unset, .unset, .unset, .unset, .unset, .unset, .unset, .unset, .unset, .unset, .unset, .unset, .unset] [(.int ta1)])) _
    refine XS.istore X5.here hx rfl (hb hby at_19) rfl (l' := #[.val (.long p0_0), .second, .val (.long p0_1), .second, iv p0_2, iv p0_3, iv p0_4, iv tla, iv ta0, iv ta1, .unset, .unset, .unset, .unset, .unset, .unset, .unset, .unset, .unset, .unset, .unset, .unset, .unset, .unset, .unset, .unset, .unset, .unset, .unset, .unset, .unset, .unset]) rfl ?_
    show Steps p.tables e below (T5.setTop (mkF m 21 #[.val (.long p0_0), .second, .val (.long p0_1), .second, iv p0_2, iv p0_3, iv p0_4, iv tla, iv ta0, iv ta1, .unset, .unset, .unset, .unset, .unset, .unset, .unset, .unset, .unset, .unset, .unset, .unset, .unset, .unset, .unset, .unset, .unset, .unset, .unset, .unset, .unset, .unset] [])) _
    refine XS.iload X5.here hx rfl (hb hby at_21) rfl ?_
    show Steps p.tables e below (T5.setTop (mkF m 23 #[.val (.long p0_0), .second, .val (.long p0_1), .second, iv p0_2, iv p0_3, iv p0_4, iv tla, iv ta0, iv ta1, .unset, .unset, .unset, .unset, .unset, .unset, .unset, .unset, .unset, .unset, .unset, .unset, .unset, .unset, .unset, .unset, .unset, .unset, .unset, .unset, .unset, .unset] [(.int p0_4)])) _
    refine XS.iconst X5.here hx rfl (hb hby at_23) ?_
    show Steps p.tables e below (T5.setTop (mkF m 24 #[.val (.long p0_0), .second, .val (.long p0_1), .second, iv p0_2, iv p0_3, iv p0_4, iv tla, iv ta0, iv ta1, .unset, .unset, .unset, .unset, .unset, .unset, .unset, .unset, .unset, .unset, .unset, .unset, .unset, .unset, .unset, .unset, .unset, .unset, .unset, .unset, .unset, .unset] [(.int (1 : Int32)), (.int p0_4)])) _
    refine XS.iand X5.here hx rfl (hb hby at_24) rfl ?_
    exact k_
  have pre9 : ∀ t, Steps p.tables e below (T5.setTop (mkF m 36 #[.val (.long p0_0), .second, .val (.long p0_1), .second, iv p0_2, iv p0_3, iv p0_4, iv tla, iv ta0, iv ta1, .unset, .unset, .unset, .unset, .unset, .unset, .unset, .unset, .unset, .unset, .unset, .unset, .unset, .unset, .unset, .unset, .unset, .unset, .unset, .unset, .unset, .unset] [(.long (if (p0_4 &&& (1 : Int32)) = (0 : Int32) then p0_0 else ((p0_0.toUInt64 >>> ((18 : Int32) &&& 0x3f).toInt64.toUInt64).toInt64)))])) t → Steps p.tables e below (s₁.setTop (entryFrame m #[(.long p0_0), (.long p0_1), (.int p0_2), (.int p0_3), (.int p0_4)] maxLocals)) t := by
    intro t_ k_
    refine pre7 _ ?_
    by_cases hm25_8 : (p0_4 &&& (1 : Int32)) = (0 : Int32)
    · simp only [if_pos hm25_8] at k_
      show Steps p.tables e below (T5.setTop (mkF m 25 #[.val (.long p0_0), .second, .val (.long p0_1), .second, iv p0_2, iv p0_3, iv p0_4, iv tla, iv ta0, iv ta1, .unset, .unset, .unset, .unset, .unset, .unset, .unset, .unset, .unset, .unset, .unset, .unset, .unset, .unset, .unset, .unset, .unset, .unset, .unset, .unset, .unset, .unset] [(.int (p0_4 &&& (1 : Int32)))])) _
      refine XS.ifNo X5.here hx rfl (hb hby at_25) rfl ((if0 _ _).trans (teq hm25_8).2) ?_
      show Steps p.tables e below (T5.setTop (mkF m 28 #[.val (.long p0_0), .second, .val (.long p0_1), .second, iv p0_2, iv p0_3, iv p0_4, iv tla, iv ta0, iv ta1, .unset, .unset, .unset, .unset, .unset, .unset, .unset, .unset, .unset, .unset, .unset, .unset, .unset, .unset, .unset, .unset, .unset, .unset, .unset, .unset, .unset, .unset] [])) _
      refine XS.lloadN X5.here hx rfl (hb hby at_28) rfl ?_
      show Steps p.tables e below (T5.setTop (mkF m 29 #[.val (.long p0_0), .second, .val (.long p0_1), .second, iv p0_2, iv p0_3, iv p0_4, iv tla, iv ta0, iv ta1, .unset, .unset, .unset, .unset, .unset, .unset, .unset, .unset, .unset, .unset, .unset, .unset, .unset, .unset, .unset, .unset, .unset, .unset, .unset, .unset, .unset, .unset] [(.long p0_0)])) _
      refine XS.goto X5.here hx rfl (pc0 := 29) (pc' := 36) rfl (hb hby at_29) (by decide) (by decide) ?_
      exact k_
    · simp only [if_neg hm25_8] at k_
      show Steps p.tables e below (T5.setTop (mkF m 25 #[.val (.long p0_0), .second, .val (.long p0_1), .second, iv p0_2, iv p0_3, iv p0_4, iv tla, iv ta0, iv ta1, .unset, .unset, .unset, .unset, .unset, .unset, .unset, .unset, .unset, .unset, .unset, .unset, .unset, .unset, .unset, .unset, .unset, .unset, .unset, .unset, .unset, .unset] [(.int (p0_4 &&& (1 : Int32)))])) _
      refine XS.ifYes X5.here hx rfl (pc0 := 25) (pc' := 32) rfl (hb hby at_25) rfl ((if0 _ _).trans (feq hm25_8).2) (by decide) (by decide) ?_
      show Steps p.tables e below (T5.setTop (mkF m 32 #[.val (.long p0_0), .second, .val (.long p0_1), .second, iv p0_2, iv p0_3, iv p0_4, iv tla, iv ta0, iv ta1, .unset, .unset, .unset, .unset, .unset, .unset, .unset, .unset, .unset, .unset, .unset, .unset, .unset, .unset, .unset, .unset, .unset, .unset, .unset, .unset, .unset, .unset] [])) _
      refine XS.lloadN X5.here hx rfl (hb hby at_32) rfl ?_
      show Steps p.tables e below (T5.setTop (mkF m 33 #[.val (.long p0_0), .second, .val (.long p0_1), .second, iv p0_2, iv p0_3, iv p0_4, iv tla, iv ta0, iv ta1, .unset, .unset, .unset, .unset, .unset, .unset, .unset, .unset, .unset, .unset, .unset, .unset, .unset, .unset, .unset, .unset, .unset, .unset, .unset, .unset, .unset, .unset] [(.long p0_0)])) _
      refine XS.bipush X5.here hx rfl (hb hby at_33) ?_
      show Steps p.tables e below (T5.setTop (mkF m 35 #[.val (.long p0_0), .second, .val (.long p0_1), .second, iv p0_2, iv p0_3, iv p0_4, iv tla, iv ta0, iv ta1, .unset, .unset, .unset, .unset, .unset, .unset, .unset, .unset, .unset, .unset, .unset, .unset, .unset, .unset, .unset, .unset, .unset, .unset, .unset, .unset, .unset, .unset] [(.int (18 : Int32)), (.long p0_0)])) _
      refine XS.lushr X5.here hx rfl (hb hby at_35) rfl ?_
      exact k_
  obtain ⟨_, _, ⟨T10, L10, k10, n10⟩, -, X10, ⟨Lc10, hQ10, l10, y10, z10⟩, st10⟩ := Jvm.LawKit.callS X5 hx (y := MN1) hown (mvT hZ wo0) (mvT hZ wo1) (mvT hZ wo2) (mvT hZ wo3) (by decide) (backOf (W := 0) (rm1 l Z a0 hw [] (if (p0_4 &&& (1 : Int32)) = (0 : Int32) then p0_0 else ((p0_0.toUInt64 >>> ((18 : Int32) &&& 0x3f).toInt64.toUInt64).toInt64)) h0 n0 Z0 ) hZ wo3 wo2 (by decide) (by decide)) (g := (mkF m 40 #[.val (.long p0_0), .second, .val (.long p0_1), .second, iv p0_2, iv p0_3, iv p0_4, iv tla, iv ta0, iv ta1, .val (.long (if (p0_4 &&& (1 : Int32)) = (0 : Int32) then p0_0 else ((p0_0.toUInt64 >>> ((18 : Int32) &&& 0x3f).toInt64.toUInt64).toInt64))), .second, .unset, .unset, .unset, .unset, .unset, .unset, .unset, .unset, .unset, .unset, .unset, .unset, .unset, .unset, .unset, .unset, .unset, .unset, .unset, .unset] [(.long (if (p0_4 &&& (1 : Int32)) = (0 : Int32) then p0_0 else ((p0_0.toUInt64 >>> ((18 : Int32) &&& 0x3f).toInt64.toUInt64).toInt64)))])) rfl (by rw [hml]; rfl) (argsL := [(.long (if (p0_4 &&& (1 : Int32)) = (0 : Int32) then p0_0 else ((p0_0.toUInt64 >>> ((18 : Int32) &&& 0x3f).toInt64.toUInt64).toInt64)))]) (rest := []) (lenOf pd_3 rfl) rfl (by show 2 * 0 + _ ≤ _; exact Nat.le_of_eq rfl) (hb hby at_40) (fun _ _ => ⟨rfl, K5q, (by decide : 0 + 0 ≤ _), (by decide : 0 + 0 ≤ _)⟩)
  dsimp only [Pt.U, Pt.locs, Pt.cells, Pt.slots] at X10 l10 y10 z10 st10 hQ10
  rw [l10, y10, z10] at X10
  obtain ⟨rfl, N10q, K10q⟩ := hQ10
  have N11 := Fr.app N6 N10q
  obtain ⟨tlb, h_tlb⟩ : ∃ z : Int32, z = (own_len (if (p0_4 &&& (1 : Int32)) = (0 : Int32) then p0_0 else ((p0_0.toUInt64 >>> ((18 : Int32) &&& 0x3f).toInt64.toUInt64).toInt64))) := ⟨_, rfl⟩
  have h3tlb : tlb = 0 ∨ tlb = 1 ∨ tlb = 2 := by rw [h_tlb]; exact own_len3 _
  obtain ⟨_, _, ⟨T12, L12, k12, n12⟩, -, X12, ⟨Lc12, hQ12, l12, y12, z12⟩, st12⟩ := Jvm.LawKit.callS X10 hx (y := MN2) hown (mvT hZ wo5) (mvT hZ wo6) (mvT hZ wo2) (mvT hZ wo7) (by decide) (backOf (W := 0) (rm2 l Z a0 hw [] (if (p0_4 &&& (1 : Int32)) = (0 : Int32) then p0_0 else ((p0_0.toUInt64 >>> ((18 : Int32) &&& 0x3f).toInt64.toUInt64).toInt64)) (2 : Int32) h0 n0 Z0 ) hZ wo7 wo2 (by decide) (by decide)) (g := (mkF m 48 #[.val (.long p0_0), .second, .val (.long p0_1), .second, iv p0_2, iv p0_3, iv p0_4, iv tla, iv ta0, iv ta1, .val (.long (if (p0_4 &&& (1 : Int32)) = (0 : Int32) then p0_0 else ((p0_0.toUInt64 >>> ((18 : Int32) &&& 0x3f).toInt64.toUInt64).toInt64))), .second, iv tlb, .unset, .unset, .unset, .unset, .unset, .unset, .unset, .unset, .unset, .unset, .unset, .unset, .unset, .unset, .unset, .unset, .unset, .unset, .unset] [(.int (2 : Int32)), (.long (if (p0_4 &&& (1 : Int32)) = (0 : Int32) then p0_0 else ((p0_0.toUInt64 >>> ((18 : Int32) &&& 0x3f).toInt64.toUInt64).toInt64)))])) rfl (by rw [hml]; rfl) (argsL := [(.long (if (p0_4 &&& (1 : Int32)) = (0 : Int32) then p0_0 else ((p0_0.toUInt64 >>> ((18 : Int32) &&& 0x3f).toInt64.toUInt64).toInt64))), (.int (2 : Int32))]) (rest := []) (lenOf pd_4 rfl) rfl (by show 2 * 0 + _ ≤ _; exact Nat.le_of_eq rfl) (hb hby at_48) (fun _ _ => ⟨rfl, K10q, (by decide : 0 + 0 ≤ _), (by decide : 0 + 0 ≤ _)⟩)
  dsimp only [Pt.U, Pt.locs, Pt.cells, Pt.slots] at X12 l12 y12 z12 st12 hQ12
  rw [l12, y12, z12] at X12
  obtain ⟨rfl, N12q, K12q⟩ := hQ12
  have N13 := Fr.app N11 N12q
  obtain ⟨tb0, h_tb0⟩ : ∃ z : Int32, z = ((((if (p0_4 &&& (1 : Int32)) = (0 : Int32) then p0_0 else ((p0_0.toUInt64 >>> ((18 : Int32) &&& 0x3f).toInt64.toUInt64).toInt64)).toUInt64 >>> ((2 : Int32) &&& 0x3f).toInt64.toUInt64).toInt64 &&& (255 : Int64)).toInt32) := ⟨_, rfl⟩
  have hrtb0 : ¬ tb0 < 0 ∧ ¬ (255 : Int32) < tb0 := by rw [h_tb0]; exact own_chr _
  obtain ⟨_, _, ⟨T14, L14, k14, n14⟩, -, X14, ⟨Lc14, hQ14, l14, y14, z14⟩, st14⟩ := Jvm.LawKit.callS X12 hx (y := MN2) hown (mvT hZ wo5) (mvT hZ wo6) (mvT hZ wo2) (mvT hZ wo7) (by decide) (backOf (W := 0) (rm2 l Z a0 hw [] (if (p0_4 &&& (1 : Int32)) = (0 : Int32) then p0_0 else ((p0_0.toUInt64 >>> ((18 : Int32) &&& 0x3f).toInt64.toUInt64).toInt64)) (10 : Int32) h0 n0 Z0 ) hZ wo7 wo2 (by decide) (by decide)) (g := (mkF m 57 #[.val (.long p0_0), .second, .val (.long p0_1), .second, iv p0_2, iv p0_3, iv p0_4, iv tla, iv ta0, iv ta1, .val (.long (if (p0_4 &&& (1 : Int32)) = (0 : Int32) then p0_0 else ((p0_0.toUInt64 >>> ((18 : Int32) &&& 0x3f).toInt64.toUInt64).toInt64))), .second, iv tlb, iv tb0, .unset, .unset, .unset, .unset, .unset, .unset, .unset, .unset, .unset, .unset, .unset, .unset, .unset, .unset, .unset, .unset, .unset, .unset] [(.int (10 : Int32)), (.long (if (p0_4 &&& (1 : Int32)) = (0 : Int32) then p0_0 else ((p0_0.toUInt64 >>> ((18 : Int32) &&& 0x3f).toInt64.toUInt64).toInt64)))])) rfl (by rw [hml]; rfl) (argsL := [(.long (if (p0_4 &&& (1 : Int32)) = (0 : Int32) then p0_0 else ((p0_0.toUInt64 >>> ((18 : Int32) &&& 0x3f).toInt64.toUInt64).toInt64))), (.int (10 : Int32))]) (rest := []) (lenOf pd_4 rfl) rfl (by show 2 * 0 + _ ≤ _; exact Nat.le_of_eq rfl) (hb hby at_57) (fun _ _ => ⟨rfl, K12q, (by decide : 0 + 0 ≤ _), (by decide : 0 + 0 ≤ _)⟩)
  dsimp only [Pt.U, Pt.locs, Pt.cells, Pt.slots] at X14 l14 y14 z14 st14 hQ14
  rw [l14, y14, z14] at X14
  obtain ⟨rfl, N14q, K14q⟩ := hQ14
  have N15 := Fr.app N13 N14q
  obtain ⟨tb1, h_tb1⟩ : ∃ z : Int32, z = ((((if (p0_4 &&& (1 : Int32)) = (0 : Int32) then p0_0 else ((p0_0.toUInt64 >>> ((18 : Int32) &&& 0x3f).toInt64.toUInt64).toInt64)).toUInt64 >>> ((10 : Int32) &&& 0x3f).toInt64.toUInt64).toInt64 &&& (255 : Int64)).toInt32) := ⟨_, rfl⟩
  have hrtb1 : ¬ tb1 < 0 ∧ ¬ (255 : Int32) < tb1 := by rw [h_tb1]; exact own_chr _
  obtain ⟨_, _, ⟨T16, L16, k16, n16⟩, -, X16, ⟨Lc16, hQ16, l16, y16, z16⟩, st16⟩ := Jvm.LawKit.callS X14 hx (y := MN1) hown (mvT hZ wo0) (mvT hZ wo1) (mvT hZ wo2) (mvT hZ wo3) (by decide) (backOf (W := 0) (rm1 l Z a0 hw [] p0_1 h0 n0 Z0 ) hZ wo3 wo2 (by decide) (by decide)) (g := (mkF m 63 #[.val (.long p0_0), .second, .val (.long p0_1), .second, iv p0_2, iv p0_3, iv p0_4, iv tla, iv ta0, iv ta1, .val (.long (if (p0_4 &&& (1 : Int32)) = (0 : Int32) then p0_0 else ((p0_0.toUInt64 >>> ((18 : Int32) &&& 0x3f).toInt64.toUInt64).toInt64))), .second, iv tlb, iv tb0, iv tb1, .unset, .unset, .unset, .unset, .unset, .unset, .unset, .unset, .unset, .unset, .unset, .unset, .unset, .unset, .unset, .unset, .unset] [(.long p0_1)])) rfl (by rw [hml]; rfl) (argsL := [(.long p0_1)]) (rest := []) (lenOf pd_3 rfl) rfl (by show 2 * 0 + _ ≤ _; exact Nat.le_of_eq rfl) (hb hby at_63) (fun _ _ => ⟨rfl, K14q, (by decide : 0 + 0 ≤ _), (by decide : 0 + 0 ≤ _)⟩)
  dsimp only [Pt.U, Pt.locs, Pt.cells, Pt.slots] at X16 l16 y16 z16 st16 hQ16
  rw [l16, y16, z16] at X16
  obtain ⟨rfl, N16q, K16q⟩ := hQ16
  have N17 := Fr.app N15 N16q
  obtain ⟨bla, h_bla⟩ : ∃ z : Int32, z = (own_len p0_1) := ⟨_, rfl⟩
  have h3bla : bla = 0 ∨ bla = 1 ∨ bla = 2 := by rw [h_bla]; exact own_len3 _
  obtain ⟨_, _, ⟨T18, L18, k18, n18⟩, -, X18, ⟨Lc18, hQ18, l18, y18, z18⟩, st18⟩ := Jvm.LawKit.callS X16 hx (y := MN2) hown (mvT hZ wo5) (mvT hZ wo6) (mvT hZ wo2) (mvT hZ wo7) (by decide) (backOf (W := 0) (rm2 l Z a0 hw [] p0_1 (2 : Int32) h0 n0 Z0 ) hZ wo7 wo2 (by decide) (by decide)) (g := (mkF m 70 #[.val (.long p0_0), .second, .val (.long p0_1), .second, iv p0_2, iv p0_3, iv p0_4, iv tla, iv ta0, iv ta1, .val (.long (if (p0_4 &&& (1 : Int32)) = (0 : Int32) then p0_0 else ((p0_0.toUInt64 >>> ((18 : Int32) &&& 0x3f).toInt64.toUInt64).toInt64))), .second, iv tlb, iv tb0, iv tb1, iv bla, .unset, .unset, .unset, .unset, .unset, .unset, .unset, .unset, .unset, .unset, .unset, .unset, .unset, .unset, .unset, .unset] [(.int (2 : Int32)), (.long p0_1)])) rfl (by rw [hml]; rfl) (argsL := [(.long p0_1), (.int (2 : Int32))]) (rest := []) (lenOf pd_4 rfl) rfl (by show 2 * 0 + _ ≤ _; exact Nat.le_of_eq rfl) (hb hby at_70) (fun _ _ => ⟨rfl, K16q, (by decide : 0 + 0 ≤ _), (by decide : 0 + 0 ≤ _)⟩)
  dsimp only [Pt.U, Pt.locs, Pt.cells, Pt.slots] at X18 l18 y18 z18 st18 hQ18
  rw [l18, y18, z18] at X18
  obtain ⟨rfl, N18q, K18q⟩ := hQ18
  have N19 := Fr.app N17 N18q
  obtain ⟨ba0, h_ba0⟩ : ∃ z : Int32, z = (((p0_1.toUInt64 >>> ((2 : Int32) &&& 0x3f).toInt64.toUInt64).toInt64 &&& (255 : Int64)).toInt32) := ⟨_, rfl⟩
  have hrba0 : ¬ ba0 < 0 ∧ ¬ (255 : Int32) < ba0 := by rw [h_ba0]; exact own_chr _
  obtain ⟨_, _, ⟨T20, L20, k20, n20⟩, -, X20, ⟨Lc20, hQ20, l20, y20, z20⟩, st20⟩ := Jvm.LawKit.callS X18 hx (y := MN2) hown (mvT hZ wo5) (mvT hZ wo6) (mvT hZ wo2) (mvT hZ wo7) (by decide) (backOf (W := 0) (rm2 l Z a0 hw [] p0_1 (10 : Int32) h0 n0 Z0 ) hZ wo7 wo2 (by decide) (by decide)) (g := (mkF m 78 #[.val (.long p0_0), .second, .val (.long p0_1), .second, iv p0_2, iv p0_3, iv p0_4, iv tla, iv ta0, iv ta1, .val (.long (if (p0_4 &&& (1 : Int32)) = (0 : Int32) then p0_0 else ((p0_0.toUInt64 >>> ((18 : Int32) &&& 0x3f).toInt64.toUInt64).toInt64))), .second, iv tlb, iv tb0, iv tb1, iv bla, iv ba0, .unset, .unset, .unset, .unset, .unset, .unset, .unset, .unset, .unset, .unset, .unset, .unset, .unset, .unset, .unset] [(.int (10 : Int32)), (.long p0_1)])) rfl (by rw [hml]; rfl) (argsL := [(.long p0_1), (.int (10 : Int32))]) (rest := []) (lenOf pd_4 rfl) rfl (by show 2 * 0 + _ ≤ _; exact Nat.le_of_eq rfl) (hb hby at_78) (fun _ _ => ⟨rfl, K18q, (by decide : 0 + 0 ≤ _), (by decide : 0 + 0 ≤ _)⟩)
  dsimp only [Pt.U, Pt.locs, Pt.cells, Pt.slots] at X20 l20 y20 z20 st20 hQ20
  rw [l20, y20, z20] at X20
  obtain ⟨rfl, N20q, K20q⟩ := hQ20
  have N21 := Fr.app N19 N20q
  obtain ⟨ba1, h_ba1⟩ : ∃ z : Int32, z = (((p0_1.toUInt64 >>> ((10 : Int32) &&& 0x3f).toInt64.toUInt64).toInt64 &&& (255 : Int64)).toInt32) := ⟨_, rfl⟩
  have hrba1 : ¬ ba1 < 0 ∧ ¬ (255 : Int32) < ba1 := by rw [h_ba1]; exact own_chr _
  have pre22 : ∀ t, Steps p.tables e below (T20.setTop (mkF m 87 #[.val (.long p0_0), .second, .val (.long p0_1), .second, iv p0_2, iv p0_3, iv p0_4, iv tla, iv ta0, iv ta1, .val (.long (if (p0_4 &&& (1 : Int32)) = (0 : Int32) then p0_0 else ((p0_0.toUInt64 >>> ((18 : Int32) &&& 0x3f).toInt64.toUInt64).toInt64))), .second, iv tlb, iv tb0, iv tb1, iv bla, iv ba0, iv ba1, .unset, .unset, .unset, .unset, .unset, .unset, .unset, .unset, .unset, .unset, .unset, .unset, .unset, .unset] [(.int (p0_4 &&& (2 : Int32)))])) t → Steps p.tables e below (s₁.setTop (entryFrame m #[(.long p0_0), (.long p0_1), (.int p0_2), (.int p0_3), (.int p0_4)] maxLocals)) t := by
    intro t_ k_
    refine pre9 _ ?_
    show Steps p.tables e below (T5.setTop (mkF m 36 #[.val (.long p0_0), .second, .val (.long p0_1), .second, iv p0_2, iv p0_3, iv p0_4, iv tla, iv ta0, iv ta1, .unset, .unset, .unset, .unset, .unset, .unset, .unset, .unset, .unset, .unset, .unset, .unset, .unset, .unset, .unset, .unset, .unset, .unset, .unset, .unset, .unset, .unset] [(.long (if (p0_4 &&& (1 : Int32)) = (0 : Int32) then p0_0 else ((p0_0.toUInt64 >>> ((18 : Int32) &&& 0x3f).toInt64.toUInt64).toInt64)))])) _
    refine XS.lstore X5.here hx rfl (hb hby at_36) rfl (l' := #[.val (.long p0_0), .second, .val (.long p0_1), .second, iv p0_2, iv p0_3, iv p0_4, iv tla, iv ta0, iv ta1, .val (.long (if (p0_4 &&& (1 : Int32)) = (0 : Int32) then p0_0 else ((p0_0.toUInt64 >>> ((18 : Int32) &&& 0x3f).toInt64.toUInt64).toInt64))), .second, .unset, .unset, .unset, .unset, .unset, .unset, .unset, .unset, .unset, .unset, .unset, .unset, .unset, .unset, .unset, .unset, .unset, .unset, .unset, .unset]) rfl ?_
    show Steps p.tables e below (T5.setTop (mkF m 38 #[.val (.long p0_0), .second, .val (.long p0_1), .second, iv p0_2, iv p0_3, iv p0_4, iv tla, iv ta0, iv ta1, .val (.long (if (p0_4 &&& (1 : Int32)) = (0 : Int32) then p0_0 else ((p0_0.toUInt64 >>> ((18 : Int32) &&& 0x3f).toInt64.toUInt64).toInt64))), .second, .unset, .unset, .unset, .unset, .unset, .unset, .unset, .unset, .unset, .unset, .unset, .unset, .unset, .unset, .unset, .unset, .unset, .unset, .unset, .unset] [])) _
    refine XS.lload X5.here hx rfl (hb hby at_38) rfl ?_
    show Steps p.tables e below (T5.setTop (mkF m 40 #[.val (.long p0_0), .second, .val (.long p0_1), .second, iv p0_2, iv p0_3, iv p0_4, iv tla, iv ta0, iv ta1, .val (.long (if (p0_4 &&& (1 : Int32)) = (0 : Int32) then p0_0 else ((p0_0.toUInt64 >>> ((18 : Int32) &&& 0x3f).toInt64.toUInt64).toInt64))), .second, .unset, .unset, .unset, .unset, .unset, .unset, .unset, .unset, .unset, .unset, .unset, .unset, .unset, .unset, .unset, .unset, .unset, .unset, .unset, .unset] [(.long (if (p0_4 &&& (1 : Int32)) = (0 : Int32) then p0_0 else ((p0_0.toUInt64 >>> ((18 : Int32) &&& 0x3f).toInt64.toUInt64).toInt64)))])) _
    refine st10 _ ?_
    show Steps p.tables e below (T10.setTop (mkF m 43 #[.val (.long p0_0), .second, .val (.long p0_1), .second, iv p0_2, iv p0_3, iv p0_4, iv tla, iv ta0, iv ta1, .val (.long (if (p0_4 &&& (1 : Int32)) = (0 : Int32) then p0_0 else ((p0_0.toUInt64 >>> ((18 : Int32) &&& 0x3f).toInt64.toUInt64).toInt64))), .second, .unset, .unset, .unset, .unset, .unset, .unset, .unset, .unset, .unset, .unset, .unset, .unset, .unset, .unset, .unset, .unset, .unset, .unset, .unset, .unset] [(.int (own_len (if (p0_4 &&& (1 : Int32)) = (0 : Int32) then p0_0 else ((p0_0.toUInt64 >>> ((18 : Int32) &&& 0x3f).toInt64.toUInt64).toInt64))))])) _
    rw [← h_tlb]
    show Steps p.tables e below (T10.setTop (mkF m 43 #[.val (.long p0_0), .second, .val (.long p0_1), .second, iv p0_2, iv p0_3, iv p0_4, iv tla, iv ta0, iv ta1, .val (.long (if (p0_4 &&& (1 : Int32)) = (0 : Int32) then p0_0 else ((p0_0.toUInt64 >>> ((18 : Int32) &&& 0x3f).toInt64.toUInt64).toInt64))), .second, .unset, .unset, .unset, .unset, .unset, .unset, .unset, .unset, .unset, .unset, .unset, .unset, .unset, .unset, .unset, .unset, .unset, .unset, .unset, .unset] [(.int tlb)])) _
    show Steps p.tables e below (T10.setTop (mkF m 43 #[.val (.long p0_0), .second, .val (.long p0_1), .second, iv p0_2, iv p0_3, iv p0_4, iv tla, iv ta0, iv ta1, .val (.long (if (p0_4 &&& (1 : Int32)) = (0 : Int32) then p0_0 else ((p0_0.toUInt64 >>> ((18 : Int32) &&& 0x3f).toInt64.toUInt64).toInt64))), .second, .unset, .unset, .unset, .unset, .unset, .unset, .unset, .unset, .unset, .unset, .unset, .unset, .unset, .unset, .unset, .unset, .unset, .unset, .unset, .unset] [(.int tlb)])) _
    refine XS.istore X10.here hx rfl (hb hby at_43) rfl (l' := #[.val (.long p0_0), .second, .val (.long p0_1), .second, iv p0_2, iv p0_3, iv p0_4, iv tla, iv ta0, iv ta1, .val (.long (if (p0_4 &&& (1 : Int32)) = (0 : Int32) then p0_0 else ((p0_0.toUInt64 >>> ((18 : Int32) &&& 0x3f).toInt64.toUInt64).toInt64))), .second, iv tlb, .unset, .unset, .unset, .unset, .unset, .unset, .unset, .unset, .unset, .unset, .unset, .unset, .unset, .unset, .unset, .unset, .unset, .unset, .unset]) rfl ?_
    show Steps p.tables e below (T10.setTop (mkF m 45 #[.val (.long p0_0), .second, .val (.long p0_1), .second, iv p0_2, iv p0_3, iv p0_4, iv tla, iv ta0, iv ta1, .val (.long (if (p0_4 &&& (1 : Int32)) = (0 : Int32) then p0_0 else ((p0_0.toUInt64 >>> ((18 : Int32) &&& 0x3f).toInt64.toUInt64).toInt64))), .second, iv tlb, .unset, .unset, .unset, .unset, .unset, .unset, .unset, .unset, .unset, .unset, .unset, .unset, .unset, .unset, .unset, .unset, .unset, .unset, .unset] [])) _
    refine XS.lload X10.here hx rfl (hb hby at_45) rfl ?_
    show Steps p.tables e below (T10.setTop (mkF m 47 #[.val (.long p0_0), .second, .val (.long p0_1), .second, iv p0_2, iv p0_3, iv p0_4, iv tla, iv ta0, iv ta1, .val (.long (if (p0_4 &&& (1 : Int32)) = (0 : Int32) then p0_0 else ((p0_0.toUInt64 >>> ((18 : Int32) &&& 0x3f).toInt64.toUInt64).toInt64))), .second, iv tlb, .unset, .unset, .unset, .unset, .unset, .unset, .unset, .unset, .unset, .unset, .unset, .unset, .unset, .unset, .unset, .unset, .unset, .unset, .unset] [(.long (if (p0_4 &&& (1 : Int32)) = (0 : Int32) then p0_0 else ((p0_0.toUInt64 >>> ((18 : Int32) &&& 0x3f).toInt64.toUInt64).toInt64)))])) _
    refine XS.iconst X10.here hx rfl (hb hby at_47) ?_
    show Steps p.tables e below (T10.setTop (mkF m 48 #[.val (.long p0_0), .second, .val (.long p0_1), .second, iv p0_2, iv p0_3, iv p0_4, iv tla, iv ta0, iv ta1, .val (.long (if (p0_4 &&& (1 : Int32)) = (0 : Int32) then p0_0 else ((p0_0.toUInt64 >>> ((18 : Int32) &&& 0x3f).toInt64.toUInt64).toInt64))), .second, iv tlb, .unset, .unset, .unset, .unset, .unset, .unset, .unset, .unset, .unset, .unset, .unset, .unset, .unset, .unset, .unset, .unset, .unset, .unset, .unset] [(.int (2 : Int32)), (.long (if (p0_4 &&& (1 : Int32)) = (0 : Int32) then p0_0 else ((p0_0.toUInt64 >>> ((18 : Int32) &&& 0x3f).toInt64.toUInt64).toInt64)))])) _
    refine st12 _ ?_
    show Steps p.tables e below (T12.setTop (mkF m 51 #[.val (.long p0_0), .second, .val (.long p0_1), .second, iv p0_2, iv p0_3, iv p0_4, iv tla, iv ta0, iv ta1, .val (.long (if (p0_4 &&& (1 : Int32)) = (0 : Int32) then p0_0 else ((p0_0.toUInt64 >>> ((18 : Int32) &&& 0x3f).toInt64.toUInt64).toInt64))), .second, iv tlb, .unset, .unset, .unset, .unset, .unset, .unset, .unset, .unset, .unset, .unset, .unset, .unset, .unset, .unset, .unset, .unset, .unset, .unset, .unset] [(.int ((((if (p0_4 &&& (1 : Int32)) = (0 : Int32) then p0_0 else ((p0_0.toUInt64 >>> ((18 : Int32) &&& 0x3f).toInt64.toUInt64).toInt64)).toUInt64 >>> ((2 : Int32) &&& 0x3f).toInt64.toUInt64).toInt64 &&& (255 : Int64)).toInt32))])) _
    rw [← h_tb0]
    show Steps p.tables e below (T12.setTop (mkF m 51 #[.val (.long p0_0), .second, .val (.long p0_1), .second, iv p0_2, iv p0_3, iv p0_4, iv tla, iv ta0, iv ta1, .val (.long (if (p0_4 &&& (1 : Int32)) = (0 : Int32) then p0_0 else ((p0_0.toUInt64 >>> ((18 : Int32) &&& 0x3f).toInt64.toUInt64).toInt64))), .second, iv tlb, .unset, .unset, .unset, .unset, .unset, .unset, .unset, .unset, .unset, .unset, .unset, .unset, .unset, .unset, .unset, .unset, .unset, .unset, .unset] [(.int tb0)])) _
    show Steps p.tables e below (T12.setTop (mkF m 51 #[.val (.long p0_0), .second, .val (.long p0_1), .second, iv p0_2, iv p0_3, iv p0_4, iv tla, iv ta0, iv ta1, .val (.long (if (p0_4 &&& (1 : Int32)) = (0 : Int32) then p0_0 else ((p0_0.toUInt64 >>> ((18 : Int32) &&& 0x3f).toInt64.toUInt64).toInt64))), .second, iv tlb, .unset, .unset, .unset, .unset, .unset, .unset, .unset, .unset, .unset, .unset, .unset, .unset, .unset, .unset, .unset, .unset, .unset, .unset, .unset] [(.int tb0)])) _
    refine XS.istore X12.here hx rfl (hb hby at_51) rfl (l' := #[.val (.long p0_0), .second, .val (.long p0_1), .second, iv p0_2, iv p0_3, iv p0_4, iv tla, iv ta0, iv ta1, .val (.long (if (p0_4 &&& (1 : Int32)) = (0 : Int32) then p0_0 else ((p0_0.toUInt64 >>> ((18 : Int32) &&& 0x3f).toInt64.toUInt64).toInt64))), .second, iv tlb, iv tb0, .unset, .unset, .unset, .unset, .unset, .unset, .unset, .unset, .unset, .unset, .unset, .unset, .unset, .unset, .unset, .unset, .unset, .unset]) rfl ?_
    show Steps p.tables e below (T12.setTop (mkF m 53 #[.val (.long p0_0), .second, .val (.long p0_1), .second, iv p0_2, iv p0_3, iv p0_4, iv tla, iv ta0, iv ta1, .val (.long (if (p0_4 &&& (1 : Int32)) = (0 : Int32) then p0_0 else ((p0_0.toUInt64 >>> ((18 : Int32) &&& 0x3f).toInt64.toUInt64).toInt64))), .second, iv tlb, iv tb0, .unset, .unset, .unset, .unset, .unset, .unset, .unset, .unset, .unset, .unset, .unset, .unset, .unset, .unset, .unset, .unset, .unset, .unset] [])) _
    refine XS.lload X12.here hx rfl (hb hby at_53) rfl ?_
    show Steps p.tables e below (T12.setTop (mkF m 55 #[.val (.long p0_0), .second, .val (.long p0_1), .second, iv p0_2, iv p0_3, iv p0_4, iv tla, iv ta0, iv ta1, .val (.long (if (p0_4 &&& (1 : Int32)) = (0 : Int32) then p0_0 else ((p0_0.toUInt64 >>> ((18 : Int32) &&& 0x3f).toInt64.toUInt64).toInt64))), .second, iv tlb, iv tb0, .unset, .unset, .unset, .unset, .unset, .unset, .unset, .unset, .unset, .unset, .unset, .unset, .unset, .unset, .unset, .unset, .unset, .unset] [(.long (if (p0_4 &&& (1 : Int32)) = (0 : Int32) then p0_0 else ((p0_0.toUInt64 >>> ((18 : Int32) &&& 0x3f).toInt64.toUInt64).toInt64)))])) _
    refine XS.bipush X12.here hx rfl (hb hby at_55) ?_
    show Steps p.tables e below (T12.setTop (mkF m 57 #[.val (.long p0_0), .second, .val (.long p0_1), .second, iv p0_2, iv p0_3, iv p0_4, iv tla, iv ta0, iv ta1, .val (.long (if (p0_4 &&& (1 : Int32)) = (0 : Int32) then p0_0 else ((p0_0.toUInt64 >>> ((18 : Int32) &&& 0x3f).toInt64.toUInt64).toInt64))), .second, iv tlb, iv tb0, .unset, .unset, .unset, .unset, .unset, .unset, .unset, .unset, .unset, .unset, .unset, .unset, .unset, .unset, .unset, .unset, .unset, .unset] [(.int (10 : Int32)), (.long (if (p0_4 &&& (1 : Int32)) = (0 : Int32) then p0_0 else ((p0_0.toUInt64 >>> ((18 : Int32) &&& 0x3f).toInt64.toUInt64).toInt64)))])) _
    refine st14 _ ?_
    show Steps p.tables e below (T14.setTop (mkF m 60 #[.val (.long p0_0), .second, .val (.long p0_1), .second, iv p0_2, iv p0_3, iv p0_4, iv tla, iv ta0, iv ta1, .val (.long (if (p0_4 &&& (1 : Int32)) = (0 : Int32) then p0_0 else ((p0_0.toUInt64 >>> ((18 : Int32) &&& 0x3f).toInt64.toUInt64).toInt64))), .second, iv tlb, iv tb0, .unset, .unset, .unset, .unset, .unset, .unset, .unset, .unset, .unset, .unset, .unset, .unset, .unset, .unset, .unset, .unset, .unset, .unset] [(.int ((((if (p0_4 &&& (1 : Int32)) = (0 : Int32) then p0_0 else ((p0_0.toUInt64 >>> ((18 : Int32) &&& 0x3f).toInt64.toUInt64).toInt64)).toUInt64 >>> ((10 : Int32) &&& 0x3f).toInt64.toUInt64).toInt64 &&& (255 : Int64)).toInt32))])) _
    rw [← h_tb1]
    show Steps p.tables e below (T14.setTop (mkF m 60 #[.val (.long p0_0), .second, .val (.long p0_1), .second, iv p0_2, iv p0_3, iv p0_4, iv tla, iv ta0, iv ta1, .val (.long (if (p0_4 &&& (1 : Int32)) = (0 : Int32) then p0_0 else ((p0_0.toUInt64 >>> ((18 : Int32) &&& 0x3f).toInt64.toUInt64).toInt64))), .second, iv tlb, iv tb0, .unset, .unset, .unset, .unset, .unset, .unset, .unset, .unset, .unset, .unset, .unset, .unset, .unset, .unset, .unset, .unset, .unset, .unset] [(.int tb1)])) _
    show Steps p.tables e below (T14.setTop (mkF m 60 #[.val (.long p0_0), .second, .val (.long p0_1), .second, iv p0_2, iv p0_3, iv p0_4, iv tla, iv ta0, iv ta1, .val (.long (if (p0_4 &&& (1 : Int32)) = (0 : Int32) then p0_0 else ((p0_0.toUInt64 >>> ((18 : Int32) &&& 0x3f).toInt64.toUInt64).toInt64))), .second, iv tlb, iv tb0, .unset, .unset, .unset, .unset, .unset, .unset, .unset, .unset, .unset, .unset, .unset, .unset, .unset, .unset, .unset, .unset, .unset, .unset] [(.int tb1)])) _
    refine XS.istore X14.here hx rfl (hb hby at_60) rfl (l' := #[.val (.long p0_0), .second, .val (.long p0_1), .second, iv p0_2, iv p0_3, iv p0_4, iv tla, iv ta0, iv ta1, .val (.long (if (p0_4 &&& (1 : Int32)) = (0 : Int32) then p0_0 else ((p0_0.toUInt64 >>> ((18 : Int32) &&& 0x3f).toInt64.toUInt64).toInt64))), .second, iv tlb, iv tb0, iv tb1, .unset, .unset, .unset, .unset, .unset, .unset, .unset, .unset, .unset, .unset, .unset, .unset, .unset, .unset, .unset, .unset, .unset]) rfl ?_
    show Steps p.tables e below (T14.setTop (mkF m 62 #[.val (.long p0_0), .second, .val (.long p0_1), .second, iv p0_2, iv p0_3, iv p0_4, iv tla, iv ta0, iv ta1, .val (.long (if (p0_4 &&& (1 : Int32)) = (0 : Int32) then p0_0 else ((p0_0.toUInt64 >>> ((18 : Int32) &&& 0x3f).toInt64.toUInt64).toInt64))), .second, iv tlb, iv tb0, iv tb1, .unset, .unset, .unset, .unset, .unset, .unset, .unset, .unset, .unset, .unset, .unset, .unset, .unset, .unset, .unset, .unset, .unset] [])) _
    refine XS.lloadN X14.here hx rfl (hb hby at_62) rfl ?_
    show Steps p.tables e below (T14.setTop (mkF m 63 #[.val (.long p0_0), .second, .val (.long p0_1), .second, iv p0_2, iv p0_3, iv p0_4, iv tla, iv ta0, iv ta1, .val (.long (if (p0_4 &&& (1 : Int32)) = (0 : Int32) then p0_0 else ((p0_0.toUInt64 >>> ((18 : Int32) &&& 0x3f).toInt64.toUInt64).toInt64))), .second, iv tlb, iv tb0, iv tb1, .unset, .unset, .unset, .unset, .unset, .unset, .unset, .unset, .unset, .unset, .unset, .unset, .unset, .unset, .unset, .unset, .unset] [(.long p0_1)])) _
    refine st16 _ ?_
    show Steps p.tables e below (T16.setTop (mkF m 66 #[.val (.long p0_0), .second, .val (.long p0_1), .second, iv p0_2, iv p0_3, iv p0_4, iv tla, iv ta0, iv ta1, .val (.long (if (p0_4 &&& (1 : Int32)) = (0 : Int32) then p0_0 else ((p0_0.toUInt64 >>> ((18 : Int32) &&& 0x3f).toInt64.toUInt64).toInt64))), .second, iv tlb, iv tb0, iv tb1, .unset, .unset, .unset, .unset, .unset, .unset, .unset, .unset, .unset, .unset, .unset, .unset, .unset, .unset, .unset, .unset, .unset] [(.int (own_len p0_1))])) _
    rw [← h_bla]
    show Steps p.tables e below (T16.setTop (mkF m 66 #[.val (.long p0_0), .second, .val (.long p0_1), .second, iv p0_2, iv p0_3, iv p0_4, iv tla, iv ta0, iv ta1, .val (.long (if (p0_4 &&& (1 : Int32)) = (0 : Int32) then p0_0 else ((p0_0.toUInt64 >>> ((18 : Int32) &&& 0x3f).toInt64.toUInt64).toInt64))), .second, iv tlb, iv tb0, iv tb1, .unset, .unset, .unset, .unset, .unset, .unset, .unset, .unset, .unset, .unset, .unset, .unset, .unset, .unset, .unset, .unset, .unset] [(.int bla)])) _
    show Steps p.tables e below (T16.setTop (mkF m 66 #[.val (.long p0_0), .second, .val (.long p0_1), .second, iv p0_2, iv p0_3, iv p0_4, iv tla, iv ta0, iv ta1, .val (.long (if (p0_4 &&& (1 : Int32)) = (0 : Int32) then p0_0 else ((p0_0.toUInt64 >>> ((18 : Int32) &&& 0x3f).toInt64.toUInt64).toInt64))), .second, iv tlb, iv tb0, iv tb1, .unset, .unset, .unset, .unset, .unset, .unset, .unset, .unset, .unset, .unset, .unset, .unset, .unset, .unset, .unset, .unset, .unset] [(.int bla)])) _
    refine XS.istore X16.here hx rfl (hb hby at_66) rfl (l' := #[.val (.long p0_0), .second, .val (.long p0_1), .second, iv p0_2, iv p0_3, iv p0_4, iv tla, iv ta0, iv ta1, .val (.long (if (p0_4 &&& (1 : Int32)) = (0 : Int32) then p0_0 else ((p0_0.toUInt64 >>> ((18 : Int32) &&& 0x3f).toInt64.toUInt64).toInt64))), .second, iv tlb, iv tb0, iv tb1, iv bla, .unset, .unset, .unset, .unset, .unset, .unset, .unset, .unset, .unset, .unset, .unset, .unset, .unset, .unset, .unset, .unset]) rfl ?_
    show Steps p.tables e below (T16.setTop (mkF m 68 #[.val (.long p0_0), .second, .val (.long p0_1), .second, iv p0_2, iv p0_3, iv p0_4, iv tla, iv ta0, iv ta1, .val (.long (if (p0_4 &&& (1 : Int32)) = (0 : Int32) then p0_0 else ((p0_0.toUInt64 >>> ((18 : Int32) &&& 0x3f).toInt64.toUInt64).toInt64))), .second, iv tlb, iv tb0, iv tb1, iv bla, .unset, .unset, .unset, .unset, .unset, .unset, .unset, .unset, .unset, .unset, .unset, .unset, .unset, .unset, .unset, .unset] [])) _
    refine XS.lloadN X16.here hx rfl (hb hby at_68) rfl ?_
    show Steps p.tables e below (T16.setTop (mkF m 69 #[.val (.long p0_0), .second, .val (.long p0_1), .second, iv p0_2, iv p0_3, iv p0_4, iv tla, iv ta0, iv ta1, .val (.long (if (p0_4 &&& (1 : Int32)) = (0 : Int32) then p0_0 else ((p0_0.toUInt64 >>> ((18 : Int32) &&& 0x3f).toInt64.toUInt64).toInt64))), .second, iv tlb, iv tb0, iv tb1, iv bla, .unset, .unset, .unset, .unset, .unset, .unset, .unset, .unset, .unset, .unset, .unset, .unset, .unset, .unset, .unset, .unset] [(.long p0_1)])) _
    refine XS.iconst X16.here hx rfl (hb hby at_69) ?_
    show Steps p.tables e below (T16.setTop (mkF m 70 #[.val (.long p0_0), .second, .val (.long p0_1), .second, iv p0_2, iv p0_3, iv p0_4, iv tla, iv ta0, iv ta1, .val (.long (if (p0_4 &&& (1 : Int32)) = (0 : Int32) then p0_0 else ((p0_0.toUInt64 >>> ((18 : Int32) &&& 0x3f).toInt64.toUInt64).toInt64))), .second, iv tlb, iv tb0, iv tb1, iv bla, .unset, .unset, .unset, .unset, .unset, .unset, .unset, .unset, .unset, .unset, .unset, .unset, .unset, .unset, .unset, .unset] [(.int (2 : Int32)), (.long p0_1)])) _
    refine st18 _ ?_
    show Steps p.tables e below (T18.setTop (mkF m 73 #[.val (.long p0_0), .second, .val (.long p0_1), .second, iv p0_2, iv p0_3, iv p0_4, iv tla, iv ta0, iv ta1, .val (.long (if (p0_4 &&& (1 : Int32)) = (0 : Int32) then p0_0 else ((p0_0.toUInt64 >>> ((18 : Int32) &&& 0x3f).toInt64.toUInt64).toInt64))), .second, iv tlb, iv tb0, iv tb1, iv bla, .unset, .unset, .unset, .unset, .unset, .unset, .unset, .unset, .unset, .unset, .unset, .unset, .unset, .unset, .unset, .unset] [(.int (((p0_1.toUInt64 >>> ((2 : Int32) &&& 0x3f).toInt64.toUInt64).toInt64 &&& (255 : Int64)).toInt32))])) _
    rw [← h_ba0]
    show Steps p.tables e below (T18.setTop (mkF m 73 #[.val (.long p0_0), .second, .val (.long p0_1), .second, iv p0_2, iv p0_3, iv p0_4, iv tla, iv ta0, iv ta1, .val (.long (if (p0_4 &&& (1 : Int32)) = (0 : Int32) then p0_0 else ((p0_0.toUInt64 >>> ((18 : Int32) &&& 0x3f).toInt64.toUInt64).toInt64))), .second, iv tlb, iv tb0, iv tb1, iv bla, .unset, .unset, .unset, .unset, .unset, .unset, .unset, .unset, .unset, .unset, .unset, .unset, .unset, .unset, .unset, .unset] [(.int ba0)])) _
    show Steps p.tables e below (T18.setTop (mkF m 73 #[.val (.long p0_0), .second, .val (.long p0_1), .second, iv p0_2, iv p0_3, iv p0_4, iv tla, iv ta0, iv ta1, .val (.long (if (p0_4 &&& (1 : Int32)) = (0 : Int32) then p0_0 else ((p0_0.toUInt64 >>> ((18 : Int32) &&& 0x3f).toInt64.toUInt64).toInt64))), .second, iv tlb, iv tb0, iv tb1, iv bla, .unset, .unset, .unset, .unset, .unset, .unset, .unset, .unset, .unset, .unset, .unset, .unset, .unset, .unset, .unset, .unset] [(.int ba0)])) _
    refine XS.istore X18.here hx rfl (hb hby at_73) rfl (l' := #[.val (.long p0_0), .second, .val (.long p0_1), .second, iv p0_2, iv p0_3, iv p0_4, iv tla, iv ta0, iv ta1, .val (.long (if (p0_4 &&& (1 : Int32)) = (0 : Int32) then p0_0 else ((p0_0.toUInt64 >>> ((18 : Int32) &&& 0x3f).toInt64.toUInt64).toInt64))), .second, iv tlb, iv tb0, iv tb1, iv bla, iv ba0, .unset, .unset, .unset, .unset, .unset, .unset, .unset, .unset, .unset, .unset, .unset, .unset, .unset, .unset, .unset]) rfl ?_
    show Steps p.tables e below (T18.setTop (mkF m 75 #[.val (.long p0_0), .second, .val (.long p0_1), .second, iv p0_2, iv p0_3, iv p0_4, iv tla, iv ta0, iv ta1, .val (.long (if (p0_4 &&& (1 : Int32)) = (0 : Int32) then p0_0 else ((p0_0.toUInt64 >>> ((18 : Int32) &&& 0x3f).toInt64.toUInt64).toInt64))), .second, iv tlb, iv tb0, iv tb1, iv bla, iv ba0, .unset, .unset, .unset, .unset, .unset, .unset, .unset, .unset, .unset, .unset, .unset, .unset, .unset, .unset, .unset] [])) _
    refine XS.lloadN X18.here hx rfl (hb hby at_75) rfl ?_
    show Steps p.tables e below (T18.setTop (mkF m 76 #[.val (.long p0_0), .second, .val (.long p0_1), .second, iv p0_2, iv p0_3, iv p0_4, iv tla, iv ta0, iv ta1, .val (.long (if (p0_4 &&& (1 : Int32)) = (0 : Int32) then p0_0 else ((p0_0.toUInt64 >>> ((18 : Int32) &&& 0x3f).toInt64.toUInt64).toInt64))), .second, iv tlb, iv tb0, iv tb1, iv bla, iv ba0, .unset, .unset, .unset, .unset, .unset, .unset, .unset, .unset, .unset, .unset, .unset, .unset, .unset, .unset, .unset] [(.long p0_1)])) _
    refine XS.bipush X18.here hx rfl (hb hby at_76) ?_
    show Steps p.tables e below (T18.setTop (mkF m 78 #[.val (.long p0_0), .second, .val (.long p0_1), .second, iv p0_2, iv p0_3, iv p0_4, iv tla, iv ta0, iv ta1, .val (.long (if (p0_4 &&& (1 : Int32)) = (0 : Int32) then p0_0 else ((p0_0.toUInt64 >>> ((18 : Int32) &&& 0x3f).toInt64.toUInt64).toInt64))), .second, iv tlb, iv tb0, iv tb1, iv bla, iv ba0, .unset, .unset, .unset, .unset, .unset, .unset, .unset, .unset, .unset, .unset, .unset, .unset, .unset, .unset, .unset] [(.int (10 : Int32)), (.long p0_1)])) _
    refine st20 _ ?_
    show Steps p.tables e below (T20.setTop (mkF m 81 #[.val (.long p0_0), .second, .val (.long p0_1), .second, iv p0_2, iv p0_3, iv p0_4, iv tla, iv ta0, iv ta1, .val (.long (if (p0_4 &&& (1 : Int32)) = (0 : Int32) then p0_0 else ((p0_0.toUInt64 >>> ((18 : Int32) &&& 0x3f).toInt64.toUInt64).toInt64))), .second, iv tlb, iv tb0, iv tb1, iv bla, iv ba0, .unset, .unset, .unset, .unset, .unset, .unset, .unset, .unset, .unset, .unset, .unset, .unset, .unset, .unset, .unset] [(.int (((p0_1.toUInt64 >>> ((10 : Int32) &&& 0x3f).toInt64.toUInt64).toInt64 &&& (255 : Int64)).toInt32))])) _
    rw [← h_ba1]
    show Steps p.tables e below (T20.setTop (mkF m 81 #[.val (.long p0_0), .second, .val (.long p0_1), .second, iv p0_2, iv p0_3, iv p0_4, iv tla, iv ta0, iv ta1, .val (.long (if (p0_4 &&& (1 : Int32)) = (0 : Int32) then p0_0 else ((p0_0.toUInt64 >>> ((18 : Int32) &&& 0x3f).toInt64.toUInt64).toInt64))), .second, iv tlb, iv tb0, iv tb1, iv bla, iv ba0, .unset, .unset, .unset, .unset, .unset, .unset, .unset, .unset, .unset, .unset, .unset, .unset, .unset, .unset, .unset] [(.int ba1)])) _
    show Steps p.tables e below (T20.setTop (mkF m 81 #[.val (.long p0_0), .second, .val (.long p0_1), .second, iv p0_2, iv p0_3, iv p0_4, iv tla, iv ta0, iv ta1, .val (.long (if (p0_4 &&& (1 : Int32)) = (0 : Int32) then p0_0 else ((p0_0.toUInt64 >>> ((18 : Int32) &&& 0x3f).toInt64.toUInt64).toInt64))), .second, iv tlb, iv tb0, iv tb1, iv bla, iv ba0, .unset, .unset, .unset, .unset, .unset, .unset, .unset, .unset, .unset, .unset, .unset, .unset, .unset, .unset, .unset] [(.int ba1)])) _
    refine XS.istore X20.here hx rfl (hb hby at_81) rfl (l' := #[.val (.long p0_0), .second, .val (.long p0_1), .second, iv p0_2, iv p0_3, iv p0_4, iv tla, iv ta0, iv ta1, .val (.long (if (p0_4 &&& (1 : Int32)) = (0 : Int32) then p0_0 else ((p0_0.toUInt64 >>> ((18 : Int32) &&& 0x3f).toInt64.toUInt64).toInt64))), .second, iv tlb, iv tb0, iv tb1, iv bla, iv ba0, iv ba1, .unset, .unset, .unset, .unset, .unset, .unset, .unset, .unset, .unset, .unset, .unset, .unset, .unset, .unset]) rfl ?_
    show Steps p.tables e below (T20.setTop (mkF m 83 #[.val (.long p0_0), .second, .val (.long p0_1), .second, iv p0_2, iv p0_3, iv p0_4, iv tla, iv ta0, iv ta1, .val (.long (if (p0_4 &&& (1 : Int32)) = (0 : Int32) then p0_0 else ((p0_0.toUInt64 >>> ((18 : Int32) &&& 0x3f).toInt64.toUInt64).toInt64))), .second, iv tlb, iv tb0, iv tb1, iv bla, iv ba0, iv ba1, .unset, .unset, .unset, .unset, .unset, .unset, .unset, .unset, .unset, .unset, .unset, .unset, .unset, .unset] [])) _
    refine XS.iload X20.here hx rfl (hb hby at_83) rfl ?_
    show Steps p.tables e below (T20.setTop (mkF m 85 #[.val (.long p0_0), .second, .val (.long p0_1), .second, iv p0_2, iv p0_3, iv p0_4, iv tla, iv ta0, iv ta1, .val (.long (if (p0_4 &&& (1 : Int32)) = (0 : Int32) then p0_0 else ((p0_0.toUInt64 >>> ((18 : Int32) &&& 0x3f).toInt64.toUInt64).toInt64))), .second, iv tlb, iv tb0, iv tb1, iv bla, iv ba0, iv ba1, .unset, .unset, .unset, .unset, .unset, .unset, .unset, .unset, .unset, .unset, .unset, .unset, .unset, .unset] [(.int p0_4)])) _
    refine XS.iconst X20.here hx rfl (hb hby at_85) ?_
    show Steps p.tables e below (T20.setTop (mkF m 86 #[.val (.long p0_0), .second, .val (.long p0_1), .second, iv p0_2, iv p0_3, iv p0_4, iv tla, iv ta0, iv ta1, .val (.long (if (p0_4 &&& (1 : Int32)) = (0 : Int32) then p0_0 else ((p0_0.toUInt64 >>> ((18 : Int32) &&& 0x3f).toInt64.toUInt64).toInt64))), .second, iv tlb, iv tb0, iv tb1, iv bla, iv ba0, iv ba1, .unset, .unset, .unset, .unset, .unset, .unset, .unset, .unset, .unset, .unset, .unset, .unset, .unset, .unset] [(.int (2 : Int32)), (.int p0_4)])) _
    refine XS.iand X20.here hx rfl (hb hby at_86) rfl ?_
    exact k_
  have pre24 : ∀ t, Steps p.tables e below (T20.setTop (mkF m 98 #[.val (.long p0_0), .second, .val (.long p0_1), .second, iv p0_2, iv p0_3, iv p0_4, iv tla, iv ta0, iv ta1, .val (.long (if (p0_4 &&& (1 : Int32)) = (0 : Int32) then p0_0 else ((p0_0.toUInt64 >>> ((18 : Int32) &&& 0x3f).toInt64.toUInt64).toInt64))), .second, iv tlb, iv tb0, iv tb1, iv bla, iv ba0, iv ba1, .unset, .unset, .unset, .unset, .unset, .unset, .unset, .unset, .unset, .unset, .unset, .unset, .unset, .unset] [(.long (if (p0_4 &&& (2 : Int32)) = (0 : Int32) then p0_1 else ((p0_1.toUInt64 >>> ((18 : Int32) &&& 0x3f).toInt64.toUInt64).toInt64)))])) t → Steps p.tables e below (s₁.setTop (entryFrame m #[(.long p0_0), (.long p0_1), (.int p0_2), (.int p0_3), (.int p0_4)] maxLocals)) t := by
    intro t_ k_
    refine pre22 _ ?_
    by_cases hm87_23 : (p0_4 &&& (2 : Int32)) = (0 : Int32)
    · simp only [if_pos hm87_23] at k_
      show Steps p.tables e below (T20.setTop (mkF m 87 #[.val (.long p0_0), .second, .val (.long p0_1), .second, iv p0_2, iv p0_3, iv p0_4, iv tla, iv ta0, iv ta1, .val (.long (if (p0_4 &&& (1 : Int32)) = (0 : Int32) then p0_0 else ((p0_0.toUInt64 >>> ((18 : Int32) &&& 0x3f).toInt64.toUInt64).toInt64))), .second, iv tlb, iv tb0, iv tb1, iv bla, iv ba0, iv ba1, .unset, .unset, .unset, .unset, .unset, .unset, .unset, .unset, .unset, .unset, .unset, .unset, .unset, .unset] [(.int (p0_4 &&& (2 : Int32)))])) _
      refine XS.ifNo X20.here hx rfl (hb hby at_87) rfl ((if0 _ _).trans (teq hm87_23).2) ?_
      show Steps p.tables e below (T20.setTop (mkF m 90 #[.val (.long p0_0), .second, .val (.long p0_1), .second, iv p0_2, iv p0_3, iv p0_4, iv tla, iv ta0, iv ta1, .val (.long (if (p0_4 &&& (1 : Int32)) = (0 : Int32) then p0_0 else ((p0_0.toUInt64 >>> ((18 : Int32) &&& 0x3f).toInt64.toUInt64).toInt64))), .second, iv tlb, iv tb0, iv tb1, iv bla, iv ba0, iv ba1, .unset, .unset, .unset, .unset, .unset, .unset, .unset, .unset, .unset, .unset, .unset, .unset, .unset, .unset] [])) _
      refine XS.lloadN X20.here hx rfl (hb hby at_90) rfl ?_
      show Steps p.tables e below (T20.setTop (mkF m 91 #[.val (.long p0_0), .second, .val (.long p0_1), .second, iv p0_2, iv p0_3, iv p0_4, iv tla, iv ta0, iv ta1, .val (.long (if (p0_4 &&& (1 : Int32)) = (0 : Int32) then p0_0 else ((p0_0.toUInt64 >>> ((18 : Int32) &&& 0x3f).toInt64.toUInt64).toInt64))), .second, iv tlb, iv tb0, iv tb1, iv bla, iv ba0, iv ba1, .unset, .unset, .unset, .unset, .unset, .unset, .unset, .unset, .unset, .unset, .unset, .unset, .unset, .unset] [(.long p0_1)])) _
      refine XS.goto X20.here hx rfl (pc0 := 91) (pc' := 98) rfl (hb hby at_91) (by decide) (by decide) ?_
      exact k_
    · simp only [if_neg hm87_23] at k_
      show Steps p.tables e below (T20.setTop (mkF m 87 #[.val (.long p0_0), .second, .val (.long p0_1), .second, iv p0_2, iv p0_3, iv p0_4, iv tla, iv ta0, iv ta1, .val (.long (if (p0_4 &&& (1 : Int32)) = (0 : Int32) then p0_0 else ((p0_0.toUInt64 >>> ((18 : Int32) &&& 0x3f).toInt64.toUInt64).toInt64))), .second, iv tlb, iv tb0, iv tb1, iv bla, iv ba0, iv ba1, .unset, .unset, .unset, .unset, .unset, .unset, .unset, .unset, .unset, .unset, .unset, .unset, .unset, .unset] [(.int (p0_4 &&& (2 : Int32)))])) _
      refine XS.ifYes X20.here hx rfl (pc0 := 87) (pc' := 94) rfl (hb hby at_87) rfl ((if0 _ _).trans (feq hm87_23).2) (by decide) (by decide) ?_
      show Steps p.tables e below (T20.setTop (mkF m 94 #[.val (.long p0_0), .second, .val (.long p0_1), .second, iv p0_2, iv p0_3, iv p0_4, iv tla, iv ta0, iv ta1, .val (.long (if (p0_4 &&& (1 : Int32)) = (0 : Int32) then p0_0 else ((p0_0.toUInt64 >>> ((18 : Int32) &&& 0x3f).toInt64.toUInt64).toInt64))), .second, iv tlb, iv tb0, iv tb1, iv bla, iv ba0, iv ba1, .unset, .unset, .unset, .unset, .unset, .unset, .unset, .unset, .unset, .unset, .unset, .unset, .unset, .unset] [])) _
      refine XS.lloadN X20.here hx rfl (hb hby at_94) rfl ?_
      show Steps p.tables e below (T20.setTop (mkF m 95 #[.val (.long p0_0), .second, .val (.long p0_1), .second, iv p0_2, iv p0_3, iv p0_4, iv tla, iv ta0, iv ta1, .val (.long (if (p0_4 &&& (1 : Int32)) = (0 : Int32) then p0_0 else ((p0_0.toUInt64 >>> ((18 : Int32) &&& 0x3f).toInt64.toUInt64).toInt64))), .second, iv tlb, iv tb0, iv tb1, iv bla, iv ba0, iv ba1, .unset, .unset, .unset, .unset, .unset, .unset, .unset, .unset, .unset, .unset, .unset, .unset, .unset, .unset] [(.long p0_1)])) _
      refine XS.bipush X20.here hx rfl (hb hby at_95) ?_
      show Steps p.tables e below (T20.setTop (mkF m 97 #[.val (.long p0_0), .second, .val (.long p0_1), .second, iv p0_2, iv p0_3, iv p0_4, iv tla, iv ta0, iv ta1, .val (.long (if (p0_4 &&& (1 : Int32)) = (0 : Int32) then p0_0 else ((p0_0.toUInt64 >>> ((18 : Int32) &&& 0x3f).toInt64.toUInt64).toInt64))), .second, iv tlb, iv tb0, iv tb1, iv bla, iv ba0, iv ba1, .unset, .unset, .unset, .unset, .unset, .unset, .unset, .unset, .unset, .unset, .unset, .unset, .unset, .unset] [(.int (18 : Int32)), (.long p0_1)])) _
      refine XS.lushr X20.here hx rfl (hb hby at_97) rfl ?_
      exact k_
  obtain ⟨_, _, ⟨T25, L25, k25, n25⟩, -, X25, ⟨Lc25, hQ25, l25, y25, z25⟩, st25⟩ := Jvm.LawKit.callS X20 hx (y := MN1) hown (mvT hZ wo0) (mvT hZ wo1) (mvT hZ wo2) (mvT hZ wo3) (by decide) (backOf (W := 0) (rm1 l Z a0 hw [] (if (p0_4 &&& (2 : Int32)) = (0 : Int32) then p0_1 else ((p0_1.toUInt64 >>> ((18 : Int32) &&& 0x3f).toInt64.toUInt64).toInt64)) h0 n0 Z0 ) hZ wo3 wo2 (by decide) (by decide)) (g := (mkF m 102 #[.val (.long p0_0), .second, .val (.long p0_1), .second, iv p0_2, iv p0_3, iv p0_4, iv tla, iv ta0, iv ta1, .val (.long (if (p0_4 &&& (1 : Int32)) = (0 : Int32) then p0_0 else ((p0_0.toUInt64 >>> ((18 : Int32) &&& 0x3f).toInt64.toUInt64).toInt64))), .second, iv tlb, iv tb0, iv tb1, iv bla, iv ba0, iv ba1, .val (.long (if (p0_4 &&& (2 : Int32)) = (0 : Int32) then p0_1 else ((p0_1.toUInt64 >>> ((18 : Int32) &&& 0x3f).toInt64.toUInt64).toInt64))), .second, .unset, .unset, .unset, .unset, .unset, .unset, .unset, .unset, .unset, .unset, .unset, .unset] [(.long (if (p0_4 &&& (2 : Int32)) = (0 : Int32) then p0_1 else ((p0_1.toUInt64 >>> ((18 : Int32) &&& 0x3f).toInt64.toUInt64).toInt64)))])) rfl (by rw [hml]; rfl) (argsL := [(.long (if (p0_4 &&& (2 : Int32)) = (0 : Int32) then p0_1 else ((p0_1.toUInt64 >>> ((18 : Int32) &&& 0x3f).toInt64.toUInt64).toInt64)))]) (rest := []) (lenOf pd_3 rfl) rfl (by show 2 * 0 + _ ≤ _; exact Nat.le_of_eq rfl) (hb hby at_102) (fun _ _ => ⟨rfl, K20q, (by decide : 0 + 0 ≤ _), (by decide : 0 + 0 ≤ _)⟩)
  dsimp only [Pt.U, Pt.locs, Pt.cells, Pt.slots] at X25 l25 y25 z25 st25 hQ25
  rw [l25, y25, z25] at X25
  obtain ⟨rfl, N25q, K25q⟩ := hQ25
  have N26 := Fr.app N21 N25q
  obtain ⟨blb, h_blb⟩ : ∃ z : Int32, z = (own_len (if (p0_4 &&& (2 : Int32)) = (0 : Int32) then p0_1 else ((p0_1.toUInt64 >>> ((18 : Int32) &&& 0x3f).toInt64.toUInt64).toInt64))) := ⟨_, rfl⟩
  have h3blb : blb = 0 ∨ blb = 1 ∨ blb = 2 := by rw [h_blb]; exact own_len3 _
  obtain ⟨_, _, ⟨T27, L27, k27, n27⟩, -, X27, ⟨Lc27, hQ27, l27, y27, z27⟩, st27⟩ := Jvm.LawKit.callS X25 hx (y := MN2) hown (mvT hZ wo5) (mvT hZ wo6) (mvT hZ wo2) (mvT hZ wo7) (by decide) (backOf (W := 0) (rm2 l Z a0 hw [] (if (p0_4 &&& (2 : Int32)) = (0 : Int32) then p0_1 else ((p0_1.toUInt64 >>> ((18 : Int32) &&& 0x3f).toInt64.toUInt64).toInt64)) (2 : Int32) h0 n0 Z0 ) hZ wo7 wo2 (by decide) (by decide)) (g := (mkF m 110 #[.val (.long p0_0), .second, .val (.long p0_1), .second, iv p0_2, iv p0_3, iv p0_4, iv tla, iv ta0, iv ta1, .val (.long (if (p0_4 &&& (1 : Int32)) = (0 : Int32) then p0_0 else ((p0_0.toUInt64 >>> ((18 : Int32) &&& 0x3f).toInt64.toUInt64).toInt64))), .second, iv tlb, iv tb0, iv tb1, iv bla, iv ba0, iv ba1, .val (.long (if (p0_4 &&& (2 : Int32)) = (0 : Int32) then p0_1 else ((p0_1.toUInt64 >>> ((18 : Int32) &&& 0x3f).toInt64.toUInt64).toInt64))), .second, iv blb, .unset, .unset, .unset, .unset, .unset, .unset, .unset, .unset, .unset, .unset, .unset] [(.int (2 : Int32)), (.long (if (p0_4 &&& (2 : Int32)) = (0 : Int32) then p0_1 else ((p0_1.toUInt64 >>> ((18 : Int32) &&& 0x3f).toInt64.toUInt64).toInt64)))])) rfl (by rw [hml]; rfl) (argsL := [(.long (if (p0_4 &&& (2 : Int32)) = (0 : Int32) then p0_1 else ((p0_1.toUInt64 >>> ((18 : Int32) &&& 0x3f).toInt64.toUInt64).toInt64))), (.int (2 : Int32))]) (rest := []) (lenOf pd_4 rfl) rfl (by show 2 * 0 + _ ≤ _; exact Nat.le_of_eq rfl) (hb hby at_110) (fun _ _ => ⟨rfl, K25q, (by decide : 0 + 0 ≤ _), (by decide : 0 + 0 ≤ _)⟩)
  dsimp only [Pt.U, Pt.locs, Pt.cells, Pt.slots] at X27 l27 y27 z27 st27 hQ27
  rw [l27, y27, z27] at X27
  obtain ⟨rfl, N27q, K27q⟩ := hQ27
  have N28 := Fr.app N26 N27q
  obtain ⟨bb0, h_bb0⟩ : ∃ z : Int32, z = ((((if (p0_4 &&& (2 : Int32)) = (0 : Int32) then p0_1 else ((p0_1.toUInt64 >>> ((18 : Int32) &&& 0x3f).toInt64.toUInt64).toInt64)).toUInt64 >>> ((2 : Int32) &&& 0x3f).toInt64.toUInt64).toInt64 &&& (255 : Int64)).toInt32) := ⟨_, rfl⟩
  have hrbb0 : ¬ bb0 < 0 ∧ ¬ (255 : Int32) < bb0 := by rw [h_bb0]; exact own_chr _
  obtain ⟨_, _, ⟨T29, L29, k29, n29⟩, -, X29, ⟨Lc29, hQ29, l29, y29, z29⟩, st29⟩ := Jvm.LawKit.callS X27 hx (y := MN2) hown (mvT hZ wo5) (mvT hZ wo6) (mvT hZ wo2) (mvT hZ wo7) (by decide) (backOf (W := 0) (rm2 l Z a0 hw [] (if (p0_4 &&& (2 : Int32)) = (0 : Int32) then p0_1 else ((p0_1.toUInt64 >>> ((18 : Int32) &&& 0x3f).toInt64.toUInt64).toInt64)) (10 : Int32) h0 n0 Z0 ) hZ wo7 wo2 (by decide) (by decide)) (g := (mkF m 119 #[.val (.long p0_0), .second, .val (.long p0_1), .second, iv p0_2, iv p0_3, iv p0_4, iv tla, iv ta0, iv ta1, .val (.long (if (p0_4 &&& (1 : Int32)) = (0 : Int32) then p0_0 else ((p0_0.toUInt64 >>> ((18 : Int32) &&& 0x3f).toInt64.toUInt64).toInt64))), .second, iv tlb, iv tb0, iv tb1, iv bla, iv ba0, iv ba1, .val (.long (if (p0_4 &&& (2 : Int32)) = (0 : Int32) then p0_1 else ((p0_1.toUInt64 >>> ((18 : Int32) &&& 0x3f).toInt64.toUInt64).toInt64))), .second, iv blb, iv bb0, .unset, .unset, .unset, .unset, .unset, .unset, .unset, .unset, .unset, .unset] [(.int (10 : Int32)), (.long (if (p0_4 &&& (2 : Int32)) = (0 : Int32) then p0_1 else ((p0_1.toUInt64 >>> ((18 : Int32) &&& 0x3f).toInt64.toUInt64).toInt64)))])) rfl (by rw [hml]; rfl) (argsL := [(.long (if (p0_4 &&& (2 : Int32)) = (0 : Int32) then p0_1 else ((p0_1.toUInt64 >>> ((18 : Int32) &&& 0x3f).toInt64.toUInt64).toInt64))), (.int (10 : Int32))]) (rest := []) (lenOf pd_4 rfl) rfl (by show 2 * 0 + _ ≤ _; exact Nat.le_of_eq rfl) (hb hby at_119) (fun _ _ => ⟨rfl, K27q, (by decide : 0 + 0 ≤ _), (by decide : 0 + 0 ≤ _)⟩)
  dsimp only [Pt.U, Pt.locs, Pt.cells, Pt.slots] at X29 l29 y29 z29 st29 hQ29
  rw [l29, y29, z29] at X29
  obtain ⟨rfl, N29q, K29q⟩ := hQ29
  have N30 := Fr.app N28 N29q
  obtain ⟨bb1, h_bb1⟩ : ∃ z : Int32, z = ((((if (p0_4 &&& (2 : Int32)) = (0 : Int32) then p0_1 else ((p0_1.toUInt64 >>> ((18 : Int32) &&& 0x3f).toInt64.toUInt64).toInt64)).toUInt64 >>> ((10 : Int32) &&& 0x3f).toInt64.toUInt64).toInt64 &&& (255 : Int64)).toInt32) := ⟨_, rfl⟩
  have hrbb1 : ¬ bb1 < 0 ∧ ¬ (255 : Int32) < bb1 := by rw [h_bb1]; exact own_chr _
  have pre31 : ∀ t, Steps p.tables e below (T29.setTop (mkF m 128 #[.val (.long p0_0), .second, .val (.long p0_1), .second, iv p0_2, iv p0_3, iv p0_4, iv tla, iv ta0, iv ta1, .val (.long (if (p0_4 &&& (1 : Int32)) = (0 : Int32) then p0_0 else ((p0_0.toUInt64 >>> ((18 : Int32) &&& 0x3f).toInt64.toUInt64).toInt64))), .second, iv tlb, iv tb0, iv tb1, iv bla, iv ba0, iv ba1, .val (.long (if (p0_4 &&& (2 : Int32)) = (0 : Int32) then p0_1 else ((p0_1.toUInt64 >>> ((18 : Int32) &&& 0x3f).toInt64.toUInt64).toInt64))), .second, iv blb, iv bb0, iv bb1, .unset, .unset, .unset, .unset, .unset, .unset, .unset, .unset, .unset] [(.int (p0_4 &&& (4 : Int32)))])) t → Steps p.tables e below (s₁.setTop (entryFrame m #[(.long p0_0), (.long p0_1), (.int p0_2), (.int p0_3), (.int p0_4)] maxLocals)) t := by
    intro t_ k_
    refine pre24 _ ?_
    show Steps p.tables e below (T20.setTop (mkF m 98 #[.val (.long p0_0), .second, .val (.long p0_1), .second, iv p0_2, iv p0_3, iv p0_4, iv tla, iv ta0, iv ta1, .val (.long (if (p0_4 &&& (1 : Int32)) = (0 : Int32) then p0_0 else ((p0_0.toUInt64 >>> ((18 : Int32) &&& 0x3f).toInt64.toUInt64).toInt64))), .second, iv tlb, iv tb0, iv tb1, iv bla, iv ba0, iv ba1, .unset, .unset, .unset, .unset, .unset, .unset, .unset, .unset, .unset, .unset, .unset, .unset, .unset, .unset] [(.long (if (p0_4 &&& (2 : Int32)) = (0 : Int32) then p0_1 else ((p0_1.toUInt64 >>> ((18 : Int32) &&& 0x3f).toInt64.toUInt64).toInt64)))])) _
    refine XS.lstore X20.here hx rfl (hb hby at_98) rfl (l' := #[.val (.long p0_0), .second, .val (.long p0_1), .second, iv p0_2, iv p0_3, iv p0_4, iv tla, iv ta0, iv ta1, .val (.long (if (p0_4 &&& (1 : Int32)) = (0 : Int32) then p0_0 else ((p0_0.toUInt64 >>> ((18 : Int32) &&& 0x3f).toInt64.toUInt64).toInt64))), .second, iv tlb, iv tb0, iv tb1, iv bla, iv ba0, iv ba1, .val (.long (if (p0_4 &&& (2 : Int32)) = (0 : Int32) then p0_1 else ((p0_1.toUInt64 >>> ((18 : Int32) &&& 0x3f).toInt64.toUInt64).toInt64))), .second, .unset, .unset, .unset, .unset, .unset, .unset, .unset, .unset, .unset, .unset, .unset, .unset]) rfl ?_
    show Steps p.tables e below (T20.setTop (mkF m 100 #[.val (.long p0_0), .second, .val (.long p0_1), .second, iv p0_2, iv p0_3, iv p0_4, iv tla, iv ta0, iv ta1, .val (.long (if (p0_4 &&& (1 : Int32)) = (0 : Int32) then p0_0 else ((p0_0.toUInt64 >>> ((18 : Int32) &&& 0x3f).toInt64.toUInt64).toInt64))), .second, iv tlb, iv tb0, iv tb1, iv bla, iv ba0, iv ba1, .val (.long (if (p0_4 &&& (2 : Int32)) = (0 : Int32) then p0_1 else ((p0_1.toUInt64 >>> ((18 : Int32) &&& 0x3f).toInt64.toUInt64).toInt64))), .second, .unset, .unset, .unset, .unset, .unset, .unset, .unset, .unset, .unset, .unset, .unset, .unset] [])) _
    refine XS.lload X20.here hx rfl (hb hby at_100) rfl ?_
    show Steps p.tables e below (T20.setTop (mkF m 102 #[.val (.long p0_0), .second, .val (.long p0_1), .second, iv p0_2, iv p0_3, iv p0_4, iv tla, iv ta0, iv ta1, .val (.long (if (p0_4 &&& (1 : Int32)) = (0 : Int32) then p0_0 else ((p0_0.toUInt64 >>> ((18 : Int32) &&& 0x3f).toInt64.toUInt64).toInt64))), .second, iv tlb, iv tb0, iv tb1, iv bla, iv ba0, iv ba1, .val (.long (if (p0_4 &&& (2 : Int32)) = (0 : Int32) then p0_1 else ((p0_1.toUInt64 >>> ((18 : Int32) &&& 0x3f).toInt64.toUInt64).toInt64))), .second, .unset, .unset, .unset, .unset, .unset, .unset, .unset, .unset, .unset, .unset, .unset, .unset] [(.long (if (p0_4 &&& (2 : Int32)) = (0 : Int32) then p0_1 else ((p0_1.toUInt64 >>> ((18 : Int32) &&& 0x3f).toInt64.toUInt64).toInt64)))])) _
    refine st25 _ ?_
    show Steps p.tables e below (T25.setTop (mkF m 105 #[.val (.long p0_0), .second, .val (.long p0_1), .second, iv p0_2, iv p0_3, iv p0_4, iv tla, iv ta0, iv ta1, .val (.long (if (p0_4 &&& (1 : Int32)) = (0 : Int32) then p0_0 else ((p0_0.toUInt64 >>> ((18 : Int32) &&& 0x3f).toInt64.toUInt64).toInt64))), .second, iv tlb, iv tb0, iv tb1, iv bla, iv ba0, iv ba1, .val (.long (if (p0_4 &&& (2 : Int32)) = (0 : Int32) then p0_1 else ((p0_1.toUInt64 >>> ((18 : Int32) &&& 0x3f).toInt64.toUInt64).toInt64))), .second, .unset, .unset, .unset, .unset, .unset, .unset, .unset, .unset, .unset, .unset, .unset, .unset] [(.int (own_len (if (p0_4 &&& (2 : Int32)) = (0 : Int32) then p0_1 else ((p0_1.toUInt64 >>> ((18 : Int32) &&& 0x3f).toInt64.toUInt64).toInt64))))])) _
    rw [← h_blb]
    show Steps p.tables e below (T25.setTop (mkF m 105 #[.val (.long p0_0), .second, .val (.long p0_1), .second, iv p0_2, iv p0_3, iv p0_4, iv tla, iv ta0, iv ta1, .val (.long (if (p0_4 &&& (1 : Int32)) = (0 : Int32) then p0_0 else ((p0_0.toUInt64 >>> ((18 : Int32) &&& 0x3f).toInt64.toUInt64).toInt64))), .second, iv tlb, iv tb0, iv tb1, iv bla, iv ba0, iv ba1, .val (.long (if (p0_4 &&& (2 : Int32)) = (0 : Int32) then p0_1 else ((p0_1.toUInt64 >>> ((18 : Int32) &&& 0x3f).toInt64.toUInt64).toInt64))), .second, .unset, .unset, .unset, .unset, .unset, .unset, .unset, .unset, .unset, .unset, .unset, .unset] [(.int blb)])) _
    show Steps p.tables e below (T25.setTop (mkF m 105 #[.val (.long p0_0), .second, .val (.long p0_1), .second, iv p0_2, iv p0_3, iv p0_4, iv tla, iv ta0, iv ta1, .val (.long (if (p0_4 &&& (1 : Int32)) = (0 : Int32) then p0_0 else ((p0_0.toUInt64 >>> ((18 : Int32) &&& 0x3f).toInt64.toUInt64).toInt64))), .second, iv tlb, iv tb0, iv tb1, iv bla, iv ba0, iv ba1, .val (.long (if (p0_4 &&& (2 : Int32)) = (0 : Int32) then p0_1 else ((p0_1.toUInt64 >>> ((18 : Int32) &&& 0x3f).toInt64.toUInt64).toInt64))), .second, .unset, .unset, .unset, .unset, .unset, .unset, .unset, .unset, .unset, .unset, .unset, .unset] [(.int blb)])) _
    refine XS.istore X25.here hx rfl (hb hby at_105) rfl (l' := #[.val (.long p0_0), .second, .val (.long p0_1), .second, iv p0_2, iv p0_3, iv p0_4, iv tla, iv ta0, iv ta1, .val (.long (if (p0_4 &&& (1 : Int32)) = (0 : Int32) then p0_0 else ((p0_0.toUInt64 >>> ((18 : Int32) &&& 0x3f).toInt64.toUInt64).toInt64))), .second, iv tlb, iv tb0, iv tb1, iv bla, iv ba0, iv ba1, .val (.long (if (p0_4 &&& (2 : Int32)) = (0 : Int32) then p0_1 else ((p0_1.toUInt64 >>> ((18 : Int32) &&& 0x3f).toInt64.toUInt64).toInt64))), .second, iv blb, .unset, .unset, .unset, .unset, .unset, .unset, .unset, .unset, .unset, .unset, .unset]) rfl ?_
    show Steps p.tables e below (T25.setTop (mkF m 107 #[.val (.long p0_0), .second, .val (.long p0_1), .second, iv p0_2, iv p0_3, iv p0_4, iv tla, iv ta0, iv ta1, .val (.long (if (p0_4 &&& (1 : Int32)) = (0 : Int32) then p0_0 else ((p0_0.toUInt64 >>> ((18 : Int32) &&& 0x3f).toInt64.toUInt64).toInt64))), .second, iv tlb, iv tb0, iv tb1, iv bla, iv ba0, iv ba1, .val (.long (if (p0_4 &&& (2 : Int32)) = (0 : Int32) then p0_1 else ((p0_1.toUInt64 >>> ((18 : Int32) &&& 0x3f).toInt64.toUInt64).toInt64))), .second, iv blb, .unset, .unset, .unset, .unset, .unset, .unset, .unset, .unset, .unset, .unset, .unset] [])) _
    refine XS.lload X25.here hx rfl (hb hby at_107) rfl ?_
    show Steps p.tables e below (T25.setTop (mkF m 109 #[.val (.long p0_0), .second, .val (.long p0_1), .second, iv p0_2, iv p0_3, iv p0_4, iv tla, iv ta0, iv ta1, .val (.long (if (p0_4 &&& (1 : Int32)) = (0 : Int32) then p0_0 else ((p0_0.toUInt64 >>> ((18 : Int32) &&& 0x3f).toInt64.toUInt64).toInt64))), .second, iv tlb, iv tb0, iv tb1, iv bla, iv ba0, iv ba1, .val (.long (if (p0_4 &&& (2 : Int32)) = (0 : Int32) then p0_1 else ((p0_1.toUInt64 >>> ((18 : Int32) &&& 0x3f).toInt64.toUInt64).toInt64))), .second, iv blb, .unset, .unset, .unset, .unset, .unset, .unset, .unset, .unset, .unset, .unset, .unset] [(.long (if (p0_4 &&& (2 : Int32)) = (0 : Int32) then p0_1 else ((p0_1.toUInt64 >>> ((18 : Int32) &&& 0x3f).toInt64.toUInt64).toInt64)))])) _
    refine XS.iconst X25.here hx rfl (hb hby at_109) ?_
    show Steps p.tables e below (T25.setTop (mkF m 110 #[.val (.long p0_0), .second, .val (.long p0_1), .second, iv p0_2, iv p0_3, iv p0_4, iv tla, iv ta0, iv ta1, .val (.long (if (p0_4 &&& (1 : Int32)) = (0 : Int32) then p0_0 else ((p0_0.toUInt64 >>> ((18 : Int32) &&& 0x3f).toInt64.toUInt64).toInt64))), .second, iv tlb, iv tb0, iv tb1, iv bla, iv ba0, iv ba1, .val (.long (if (p0_4 &&& (2 : Int32)) = (0 : Int32) then p0_1 else ((p0_1.toUInt64 >>> ((18 : Int32) &&& 0x3f).toInt64.toUInt64).toInt64))), .second, iv blb, .unset, .unset, .unset, .unset, .unset, .unset, .unset, .unset, .unset, .unset, .unset] [(.int (2 : Int32)), (.long (if (p0_4 &&& (2 : Int32)) = (0 : Int32) then p0_1 else ((p0_1.toUInt64 >>> ((18 : Int32) &&& 0x3f).toInt64.toUInt64).toInt64)))])) _
    refine st27 _ ?_
    show Steps p.tables e below (T27.setTop (mkF m 113 #[.val (.long p0_0), .second, .val (.long p0_1), .second, iv p0_2, iv p0_3, iv p0_4, iv tla, iv ta0, iv ta1, .val (.long (if (p0_4 &&& (1 : Int32)) = (0 : Int32) then p0_0 else ((p0_0.toUInt64 >>> ((18 : Int32) &&& 0x3f).toInt64.toUInt64).toInt64))), .second, iv tlb, iv tb0, iv tb1, iv bla, iv ba0, iv ba1, .val (.long (if (p0_4 &&& (2 : Int32)) = (0 : Int32) then p0_1 else ((p0_1.toUInt64 >>> ((18 : Int32) &&& 0x3f).toInt64.toUInt64).toInt64))), .second, iv blb, .unset, .unset, .unset, .unset, .unset, .unset, .unset, .unset, .unset, .unset, .unset] [(.int ((((if (p0_4 &&& (2 : Int32)) = (0 : Int32) then p0_1 else ((p0_1.toUInt64 >>> ((18 : Int32) &&& 0x3f).toInt64.toUInt64).toInt64)).toUInt64 >>> ((2 : Int32) &&& 0x3f).toInt64.toUInt64).toInt64 &&& (255 : Int64)).toInt32))])) _
    rw [← h_bb0]
    show Steps p.tables e below (T27.setTop (mkF m 113 #[.val (.long p0_0), .second, .val (.long p0_1), .second, iv p0_2, iv p0_3, iv p0_4, iv tla, iv ta0, iv ta1, .val (.long (if (p0_4 &&& (1 : Int32)) = (0 : Int32) then p0_0 else ((p0_0.toUInt64 >>> ((18 : Int32) &&& 0x3f).toInt64.toUInt64).toInt64))), .second, iv tlb, iv tb0, iv tb1, iv bla, iv ba0, iv ba1, .val (.long (if (p0_4 &&& (2 : Int32)) = (0 : Int32) then p0_1 else ((p0_1.toUInt64 >>> ((18 : Int32) &&& 0x3f).toInt64.toUInt64).toInt64))), .second, iv blb, .unset, .unset, .unset, .unset, .unset, .unset, .unset, .unset, .unset, .unset, .unset] [(.int bb0)])) _
    show Steps p.tables e below (T27.setTop (mkF m 113 #[.val (.long p0_0), .second, .val (.long p0_1), .second, iv p0_2, iv p0_3, iv p0_4, iv tla, iv ta0, iv ta1, .val (.long (if (p0_4 &&& (1 : Int32)) = (0 : Int32) then p0_0 else ((p0_0.toUInt64 >>> ((18 : Int32) &&& 0x3f).toInt64.toUInt64).toInt64))), .second, iv tlb, iv tb0, iv tb1, iv bla, iv ba0, iv ba1, .val (.long (if (p0_4 &&& (2 : Int32)) = (0 : Int32) then p0_1 else ((p0_1.toUInt64 >>> ((18 : Int32) &&& 0x3f).toInt64.toUInt64).toInt64))), .second, iv blb, .unset, .unset, .unset, .unset, .unset, .unset, .unset, .unset, .unset, .unset, .unset] [(.int bb0)])) _
    refine XS.istore X27.here hx rfl (hb hby at_113) rfl (l' := #[.val (.long p0_0), .second, .val (.long p0_1), .second, iv p0_2, iv p0_3, iv p0_4, iv tla, iv ta0, iv ta1, .val (.long (if (p0_4 &&& (1 : Int32)) = (0 : Int32) then p0_0 else ((p0_0.toUInt64 >>> ((18 : Int32) &&& 0x3f).toInt64.toUInt64).toInt64))), .second, iv tlb, iv tb0, iv tb1, iv bla, iv ba0, iv ba1, .val (.long (if (p0_4 &&& (2 : Int32)) = (0 : Int32) then p0_1 else ((p0_1.toUInt64 >>> ((18 : Int32) &&& 0x3f).toInt64.toUInt64).toInt64))), .second, iv blb, iv bb0, .unset, .unset, .unset, .unset, .unset, .unset, .unset, .unset, .unset, .unset]) rfl ?_
    show Steps p.tables e below (T27.setTop (mkF m 115 #[.val (.long p0_0), .second, .val (.long p0_1), .second, iv p0_2, iv p0_3, iv p0_4, iv tla, iv ta0, iv ta1, .val (.long (if (p0_4 &&& (1 : Int32)) = (0 : Int32) then p0_0 else ((p0_0.toUInt64 >>> ((18 : Int32) &&& 0x3f).toInt64.toUInt64).toInt64))), .second, iv tlb, iv tb0, iv tb1, iv bla, iv ba0, iv ba1, .val (.long (if (p0_4 &&& (2 : Int32)) = (0 : Int32) then p0_1 else ((p0_1.toUInt64 >>> ((18 : Int32) &&& 0x3f).toInt64.toUInt64).toInt64))), .second, iv blb, iv bb0, .unset, .unset, .unset, .unset, .unset, .unset, .unset, .unset, .unset, .unset] [])) _
    refine XS.lload X27.here hx rfl (hb hby at_115) rfl ?_
    show Steps p.tables e below (T27.setTop (mkF m 117 #[.val (.long p0_0), .second, .val (.long p0_1), .second, iv p0_2, iv p0_3, iv p0_4, iv tla, iv ta0, iv ta1, .val (.long (if (p0_4 &&& (1 : Int32)) = (0 : Int32) then p0_0 else ((p0_0.toUInt64 >>> ((18 : Int32) &&& 0x3f).toInt64.toUInt64).toInt64))), .second, iv tlb, iv tb0, iv tb1, iv bla, iv ba0, iv ba1, .val (.long (if (p0_4 &&& (2 : Int32)) = (0 : Int32) then p0_1 else ((p0_1.toUInt64 >>> ((18 : Int32) &&& 0x3f).toInt64.toUInt64).toInt64))), .second, iv blb, iv bb0, .unset, .unset, .unset, .unset, .unset, .unset, .unset, .unset, .unset, .unset] [(.long (if (p0_4 &&& (2 : Int32)) = (0 : Int32) then p0_1 else ((p0_1.toUInt64 >>> ((18 : Int32) &&& 0x3f).toInt64.toUInt64).toInt64)))])) _
    refine XS.bipush X27.here hx rfl (hb hby at_117) ?_
    show Steps p.tables e below (T27.setTop (mkF m 119 #[.val (.long p0_0), .second, .val (.long p0_1), .second, iv p0_2, iv p0_3, iv p0_4, iv tla, iv ta0, iv ta1, .val (.long (if (p0_4 &&& (1 : Int32)) = (0 : Int32) then p0_0 else ((p0_0.toUInt64 >>> ((18 : Int32) &&& 0x3f).toInt64.toUInt64).toInt64))), .second, iv tlb, iv tb0, iv tb1, iv bla, iv ba0, iv ba1, .val (.long (if (p0_4 &&& (2 : Int32)) = (0 : Int32) then p0_1 else ((p0_1.toUInt64 >>> ((18 : Int32) &&& 0x3f).toInt64.toUInt64).toInt64))), .second, iv blb, iv bb0, .unset, .unset, .unset, .unset, .unset, .unset, .unset, .unset, .unset, .unset] [(.int (10 : Int32)), (.long (if (p0_4 &&& (2 : Int32)) = (0 : Int32) then p0_1 else ((p0_1.toUInt64 >>> ((18 : Int32) &&& 0x3f).toInt64.toUInt64).toInt64)))])) _
    refine st29 _ ?_
    show Steps p.tables e below (T29.setTop (mkF m 122 #[.val (.long p0_0), .second, .val (.long p0_1), .second, iv p0_2, iv p0_3, iv p0_4, iv tla, iv ta0, iv ta1, .val (.long (if (p0_4 &&& (1 : Int32)) = (0 : Int32) then p0_0 else ((p0_0.toUInt64 >>> ((18 : Int32) &&& 0x3f).toInt64.toUInt64).toInt64))), .second, iv tlb, iv tb0, iv tb1, iv bla, iv ba0, iv ba1, .val (.long (if (p0_4 &&& (2 : Int32)) = (0 : Int32) then p0_1 else ((p0_1.toUInt64 >>> ((18 : Int32) &&& 0x3f).toInt64.toUInt64).toInt64))), .second, iv blb, iv bb0, .unset, .unset, .unset, .unset, .unset, .unset, .unset, .unset, .unset, .unset] [(.int ((((if (p0_4 &&& (2 : Int32)) = (0 : Int32) then p0_1 else ((p0_1.toUInt64 >>> ((18 : Int32) &&& 0x3f).toInt64.toUInt64).toInt64)).toUInt64 >>> ((10 : Int32) &&& 0x3f).toInt64.toUInt64).toInt64 &&& (255 : Int64)).toInt32))])) _
    rw [← h_bb1]
    show Steps p.tables e below (T29.setTop (mkF m 122 #[.val (.long p0_0), .second, .val (.long p0_1), .second, iv p0_2, iv p0_3, iv p0_4, iv tla, iv ta0, iv ta1, .val (.long (if (p0_4 &&& (1 : Int32)) = (0 : Int32) then p0_0 else ((p0_0.toUInt64 >>> ((18 : Int32) &&& 0x3f).toInt64.toUInt64).toInt64))), .second, iv tlb, iv tb0, iv tb1, iv bla, iv ba0, iv ba1, .val (.long (if (p0_4 &&& (2 : Int32)) = (0 : Int32) then p0_1 else ((p0_1.toUInt64 >>> ((18 : Int32) &&& 0x3f).toInt64.toUInt64).toInt64))), .second, iv blb, iv bb0, .unset, .unset, .unset, .unset, .unset, .unset, .unset, .unset, .unset, .unset] [(.int bb1)])) _
    show Steps p.tables e below (T29.setTop (mkF m 122 #[.val (.long p0_0), .second, .val (.long p0_1), .second, iv p0_2, iv p0_3, iv p0_4, iv tla, iv ta0, iv ta1, .val (.long (if (p0_4 &&& (1 : Int32)) = (0 : Int32) then p0_0 else ((p0_0.toUInt64 >>> ((18 : Int32) &&& 0x3f).toInt64.toUInt64).toInt64))), .second, iv tlb, iv tb0, iv tb1, iv bla, iv ba0, iv ba1, .val (.long (if (p0_4 &&& (2 : Int32)) = (0 : Int32) then p0_1 else ((p0_1.toUInt64 >>> ((18 : Int32) &&& 0x3f).toInt64.toUInt64).toInt64))), .second, iv blb, iv bb0, .unset, .unset, .unset, .unset, .unset, .unset, .unset, .unset, .unset, .unset] [(.int bb1)])) _
    refine XS.istore X29.here hx rfl (hb hby at_122) rfl (l' := #[.val (.long p0_0), .second, .val (.long p0_1), .second, iv p0_2, iv p0_3, iv p0_4, iv tla, iv ta0, iv ta1, .val (.long (if (p0_4 &&& (1 : Int32)) = (0 : Int32) then p0_0 else ((p0_0.toUInt64 >>> ((18 : Int32) &&& 0x3f).toInt64.toUInt64).toInt64))), .second, iv tlb, iv tb0, iv tb1, iv bla, iv ba0, iv ba1, .val (.long (if (p0_4 &&& (2 : Int32)) = (0 : Int32) then p0_1 else ((p0_1.toUInt64 >>> ((18 : Int32) &&& 0x3f).toInt64.toUInt64).toInt64))), .second, iv blb, iv bb0, iv bb1, .unset, .unset, .unset, .unset, .unset, .unset, .unset, .unset, .unset]) rfl ?_
    show Steps p.tables e below (T29.setTop (mkF m 124 #[.val (.long p0_0), .second, .val (.long p0_1), .second, iv p0_2, iv p0_3, iv p0_4, iv tla, iv ta0, iv ta1, .val (.long (if (p0_4 &&& (1 : Int32)) = (0 : Int32) then p0_0 else ((p0_0.toUInt64 >>> ((18 : Int32) &&& 0x3f).toInt64.toUInt64).toInt64))), .second, iv tlb, iv tb0, iv tb1, iv bla, iv ba0, iv ba1, .val (.long (if (p0_4 &&& (2 : Int32)) = (0 : Int32) then p0_1 else ((p0_1.toUInt64 >>> ((18 : Int32) &&& 0x3f).toInt64.toUInt64).toInt64))), .second, iv blb, iv bb0, iv bb1, .unset, .unset, .unset, .unset, .unset, .unset, .unset, .unset, .unset] [])) _
    refine XS.iload X29.here hx rfl (hb hby at_124) rfl ?_
    show Steps p.tables e below (T29.setTop (mkF m 126 #[.val (.long p0_0), .second, .val (.long p0_1), .second, iv p0_2, iv p0_3, iv p0_4, iv tla, iv ta0, iv ta1, .val (.long (if (p0_4 &&& (1 : Int32)) = (0 : Int32) then p0_0 else ((p0_0.toUInt64 >>> ((18 : Int32) &&& 0x3f).toInt64.toUInt64).toInt64))), .second, iv tlb, iv tb0, iv tb1, iv bla, iv ba0, iv ba1, .val (.long (if (p0_4 &&& (2 : Int32)) = (0 : Int32) then p0_1 else ((p0_1.toUInt64 >>> ((18 : Int32) &&& 0x3f).toInt64.toUInt64).toInt64))), .second, iv blb, iv bb0, iv bb1, .unset, .unset, .unset, .unset, .unset, .unset, .unset, .unset, .unset] [(.int p0_4)])) _
    refine XS.iconst X29.here hx rfl (hb hby at_126) ?_
    show Steps p.tables e below (T29.setTop (mkF m 127 #[.val (.long p0_0), .second, .val (.long p0_1), .second, iv p0_2, iv p0_3, iv p0_4, iv tla, iv ta0, iv ta1, .val (.long (if (p0_4 &&& (1 : Int32)) = (0 : Int32) then p0_0 else ((p0_0.toUInt64 >>> ((18 : Int32) &&& 0x3f).toInt64.toUInt64).toInt64))), .second, iv tlb, iv tb0, iv tb1, iv bla, iv ba0, iv ba1, .val (.long (if (p0_4 &&& (2 : Int32)) = (0 : Int32) then p0_1 else ((p0_1.toUInt64 >>> ((18 : Int32) &&& 0x3f).toInt64.toUInt64).toInt64))), .second, iv blb, iv bb0, iv bb1, .unset, .unset, .unset, .unset, .unset, .unset, .unset, .unset, .unset] [(.int (4 : Int32)), (.int p0_4)])) _
    refine XS.iand X29.here hx rfl (hb hby at_127) rfl ?_
    exact k_
  have pre33 : ∀ t, Steps p.tables e below (T29.setTop (mkF m 138 #[.val (.long p0_0), .second, .val (.long p0_1), .second, iv p0_2, iv p0_3, iv p0_4, iv tla, iv ta0, iv ta1, .val (.long (if (p0_4 &&& (1 : Int32)) = (0 : Int32) then p0_0 else ((p0_0.toUInt64 >>> ((18 : Int32) &&& 0x3f).toInt64.toUInt64).toInt64))), .second, iv tlb, iv tb0, iv tb1, iv bla, iv ba0, iv ba1, .val (.long (if (p0_4 &&& (2 : Int32)) = (0 : Int32) then p0_1 else ((p0_1.toUInt64 >>> ((18 : Int32) &&& 0x3f).toInt64.toUInt64).toInt64))), .second, iv blb, iv bb0, iv bb1, .unset, .unset, .unset, .unset, .unset, .unset, .unset, .unset, .unset] [(.int (if (p0_4 &&& (4 : Int32)) = (0 : Int32) then p0_2 else p0_3))])) t → Steps p.tables e below (s₁.setTop (entryFrame m #[(.long p0_0), (.long p0_1), (.int p0_2), (.int p0_3), (.int p0_4)] maxLocals)) t := by
    intro t_ k_
    refine pre31 _ ?_
    by_cases hm128_32 : (p0_4 &&& (4 : Int32)) = (0 : Int32)
    · simp only [if_pos hm128_32] at k_
      show Steps p.tables e below (T29.setTop (mkF m 128 #[.val (.long p0_0), .second, .val (.long p0_1), .second, iv p0_2, iv p0_3, iv p0_4, iv tla, iv ta0, iv ta1, .val (.long (if (p0_4 &&& (1 : Int32)) = (0 : Int32) then p0_0 else ((p0_0.toUInt64 >>> ((18 : Int32) &&& 0x3f).toInt64.toUInt64).toInt64))), .second, iv tlb, iv tb0, iv tb1, iv bla, iv ba0, iv ba1, .val (.long (if (p0_4 &&& (2 : Int32)) = (0 : Int32) then p0_1 else ((p0_1.toUInt64 >>> ((18 : Int32) &&& 0x3f).toInt64.toUInt64).toInt64))), .second, iv blb, iv bb0, iv bb1, .unset, .unset, .unset, .unset, .unset, .unset, .unset, .unset, .unset] [(.int (p0_4 &&& (4 : Int32)))])) _
      refine XS.ifNo X29.here hx rfl (hb hby at_128) rfl ((if0 _ _).trans (teq hm128_32).2) ?_
      show Steps p.tables e below (T29.setTop (mkF m 131 #[.val (.long p0_0), .second, .val (.long p0_1), .second, iv p0_2, iv p0_3, iv p0_4, iv tla, iv ta0, iv ta1, .val (.long (if (p0_4 &&& (1 : Int32)) = (0 : Int32) then p0_0 else ((p0_0.toUInt64 >>> ((18 : Int32) &&& 0x3f).toInt64.toUInt64).toInt64))), .second, iv tlb, iv tb0, iv tb1, iv bla, iv ba0, iv ba1, .val (.long (if (p0_4 &&& (2 : Int32)) = (0 : Int32) then p0_1 else ((p0_1.toUInt64 >>> ((18 : Int32) &&& 0x3f).toInt64.toUInt64).toInt64))), .second, iv blb, iv bb0, iv bb1, .unset, .unset, .unset, .unset, .unset, .unset, .unset, .unset, .unset] [])) _
      refine XS.iload X29.here hx rfl (hb hby at_131) rfl ?_
      show Steps p.tables e below (T29.setTop (mkF m 133 #[.val (.long p0_0), .second, .val (.long p0_1), .second, iv p0_2, iv p0_3, iv p0_4, iv tla, iv ta0, iv ta1, .val (.long (if (p0_4 &&& (1 : Int32)) = (0 : Int32) then p0_0 else ((p0_0.toUInt64 >>> ((18 : Int32) &&& 0x3f).toInt64.toUInt64).toInt64))), .second, iv tlb, iv tb0, iv tb1, iv bla, iv ba0, iv ba1, .val (.long (if (p0_4 &&& (2 : Int32)) = (0 : Int32) then p0_1 else ((p0_1.toUInt64 >>> ((18 : Int32) &&& 0x3f).toInt64.toUInt64).toInt64))), .second, iv blb, iv bb0, iv bb1, .unset, .unset, .unset, .unset, .unset, .unset, .unset, .unset, .unset] [(.int p0_2)])) _
      refine XS.goto X29.here hx rfl (pc0 := 133) (pc' := 138) rfl (hb hby at_133) (by decide) (by decide) ?_
      exact k_
    · simp only [if_neg hm128_32] at k_
      show Steps p.tables e below (T29.setTop (mkF m 128 #[.val (.long p0_0), .second, .val (.long p0_1), .second, iv p0_2, iv p0_3, iv p0_4, iv tla, iv ta0, iv ta1, .val (.long (if (p0_4 &&& (1 : Int32)) = (0 : Int32) then p0_0 else ((p0_0.toUInt64 >>> ((18 : Int32) &&& 0x3f).toInt64.toUInt64).toInt64))), .second, iv tlb, iv tb0, iv tb1, iv bla, iv ba0, iv ba1, .val (.long (if (p0_4 &&& (2 : Int32)) = (0 : Int32) then p0_1 else ((p0_1.toUInt64 >>> ((18 : Int32) &&& 0x3f).toInt64.toUInt64).toInt64))), .second, iv blb, iv bb0, iv bb1, .unset, .unset, .unset, .unset, .unset, .unset, .unset, .unset, .unset] [(.int (p0_4 &&& (4 : Int32)))])) _
      refine XS.ifYes X29.here hx rfl (pc0 := 128) (pc' := 136) rfl (hb hby at_128) rfl ((if0 _ _).trans (feq hm128_32).2) (by decide) (by decide) ?_
      show Steps p.tables e below (T29.setTop (mkF m 136 #[.val (.long p0_0), .second, .val (.long p0_1), .second, iv p0_2, iv p0_3, iv p0_4, iv tla, iv ta0, iv ta1, .val (.long (if (p0_4 &&& (1 : Int32)) = (0 : Int32) then p0_0 else ((p0_0.toUInt64 >>> ((18 : Int32) &&& 0x3f).toInt64.toUInt64).toInt64))), .second, iv tlb, iv tb0, iv tb1, iv bla, iv ba0, iv ba1, .val (.long (if (p0_4 &&& (2 : Int32)) = (0 : Int32) then p0_1 else ((p0_1.toUInt64 >>> ((18 : Int32) &&& 0x3f).toInt64.toUInt64).toInt64))), .second, iv blb, iv bb0, iv bb1, .unset, .unset, .unset, .unset, .unset, .unset, .unset, .unset, .unset] [])) _
      refine XS.iload X29.here hx rfl (hb hby at_136) rfl ?_
      exact k_
  have hZ34 := hZ
  have hown34 := hown
  obtain ⟨_, _, ⟨T34, L34, k34, n34⟩, -, X34, Sp34, Gp34, ⟨Lc34, hQ34, l34, y34, z34, cc34⟩, st34⟩ := callSS X29 hx (y := MN3) hown (mvT hZ wo9) (mvT hZ wo10) (mvT hZ wo2) (mvT hZ wo11) (by decide) (backOfSH (s := s) (vm0 := s.vm) (W := 0) (rm3 l Z a0 hw [] tla ta0 ta1 cs h0 n0 Z0 pf_O pf_S_java_lang_String_COMPACT_STRINGS (hcs : ¬ (cs = (0 : Int32))) (h3tla : tla = 0 ∨ tla = 1 ∨ tla = 2) (hrta0 : ¬ ta0 < 0 ∧ ¬ (255 : Int32) < ta0) (hrta1 : ¬ ta1 < 0 ∧ ¬ (255 : Int32) < ta1)) hZ wo11 wo2 (by decide) (by decide) hEL CR0.1) (g := (mkF m 146 #[.val (.long p0_0), .second, .val (.long p0_1), .second, iv p0_2, iv p0_3, iv p0_4, iv tla, iv ta0, iv ta1, .val (.long (if (p0_4 &&& (1 : Int32)) = (0 : Int32) then p0_0 else ((p0_0.toUInt64 >>> ((18 : Int32) &&& 0x3f).toInt64.toUInt64).toInt64))), .second, iv tlb, iv tb0, iv tb1, iv bla, iv ba0, iv ba1, .val (.long (if (p0_4 &&& (2 : Int32)) = (0 : Int32) then p0_1 else ((p0_1.toUInt64 >>> ((18 : Int32) &&& 0x3f).toInt64.toUInt64).toInt64))), .second, iv blb, iv bb0, iv bb1, iv (if (p0_4 &&& (4 : Int32)) = (0 : Int32) then p0_2 else p0_3), .unset, .unset, .unset, .unset, .unset, .unset, .unset, .unset] [(.int ta1), (.int ta0), (.int tla)])) rfl (by rw [hml]; rfl) (argsL := [(.int tla), (.int ta0), (.int ta1)]) (rest := []) (lenOf pd_1 rfl) rfl (by show 2 * 0 + _ ≤ _; exact Nat.le_of_eq rfl) (hb hby at_146) (fun _ _ => ⟨rfl, K29q, (by decide : 0 + 6 ≤ _), (by decide : 0 + 12 ≤ _)⟩)
  dsimp only [Pt.U, Pt.locs, Pt.cells, Pt.slots] at X34 l34 y34 z34 st34 hQ34 Sp34 Gp34 cc34
  rw [l34, y34, z34] at X34
  obtain ⟨X34, S34, hZ, hown⟩ := rebS (s := s) (vm0 := s.vm) (Z := Z) (own := "com/example/topiq/topiq/protocol/MessageQueueEqualsPinLaw") ((State.WarmedH.refl s).since 0) (Nat.zero_le _) X34 Sp34 Gp34 hZ hown
  obtain ⟨r_34, b_34, rfl, N34q, K34q, hq34_0, hq34_1, hq34_2, hq34_3, hq34_4⟩ := hQ34
  have N35 := Fr.app N30 N34q
  have g36 : n0 ≤ r_34 := Nat.le_trans Z0 hq34_0
  have bz37 : h0.size ≤ r_34 := Nat.le_trans (Keep.refl h0 []).1 hq34_0
  have CS38 : CHr Z consts_1 s.vm h0 T34.vm (T34.heap) := cc34
  have CR39 := CR0.trans CS38
  have K40 : Keep h0 T34.heap [] := (Keep.refl h0 []).trans K34q all0
  have f41 := (pf_O.keep K34q all0)
  have f43 := (Nat.le_trans Z0 K34q.1)
  have hZ42 := hZ
  have hown42 := hown
  obtain ⟨_, _, ⟨T42, L42, k42, n42⟩, -, X42, Sp42, Gp42, ⟨Lc42, hQ42, l42, y42, z42, cc42⟩, st42⟩ := callSS X34 hx (y := MN3) hown (mvT hZ wo9) (mvT hZ wo10) (mvT hZ wo2) (mvT hZ wo11) (by decide) (backOfSH (s := s) (vm0 := T34.vm) (W := 0) (rm3 l Z a0 hw [] tlb tb0 tb1 cs (T34.heap) n0 f43 f41 pf_S_java_lang_String_COMPACT_STRINGS (hcs : ¬ (cs = (0 : Int32))) (h3tlb : tlb = 0 ∨ tlb = 1 ∨ tlb = 2) (hrtb0 : ¬ tb0 < 0 ∧ ¬ (255 : Int32) < tb0) (hrtb1 : ¬ tb1 < 0 ∧ ¬ (255 : Int32) < tb1)) hZ wo11 wo2 (by decide) (by decide) hEL CR39.1) (g := (mkF m 157 #[.val (.long p0_0), .second, .val (.long p0_1), .second, iv p0_2, iv p0_3, iv p0_4, iv tla, iv ta0, iv ta1, .val (.long (if (p0_4 &&& (1 : Int32)) = (0 : Int32) then p0_0 else ((p0_0.toUInt64 >>> ((18 : Int32) &&& 0x3f).toInt64.toUInt64).toInt64))), .second, iv tlb, iv tb0, iv tb1, iv bla, iv ba0, iv ba1, .val (.long (if (p0_4 &&& (2 : Int32)) = (0 : Int32) then p0_1 else ((p0_1.toUInt64 >>> ((18 : Int32) &&& 0x3f).toInt64.toUInt64).toInt64))), .second, iv blb, iv bb0, iv bb1, iv (if (p0_4 &&& (4 : Int32)) = (0 : Int32) then p0_2 else p0_3), rv r_34, .unset, .unset, .unset, .unset, .unset, .unset, .unset] [(.int tb1), (.int tb0), (.int tlb)])) rfl (by rw [hml]; rfl) (argsL := [(.int tlb), (.int tb0), (.int tb1)]) (rest := []) (lenOf pd_1 rfl) rfl (by show 2 * 0 + _ ≤ _; exact Nat.le_of_eq rfl) (hb hby at_157) (fun _ _ => ⟨rfl, rfl, (by decide : 6 + 6 ≤ _), (by decide : 12 + 12 ≤ _)⟩)
  dsimp only [Pt.U, Pt.locs, Pt.cells, Pt.slots] at X42 l42 y42 z42 st42 hQ42 Sp42 Gp42 cc42
  rw [l42, y42, z42] at X42
  obtain ⟨X42, S42, hZ, hown⟩ := rebS (s := s) (vm0 := T34.vm) (Z := Z) (own := "com/example/topiq/topiq/protocol/MessageQueueEqualsPinLaw") S34 (Nat.le_refl T34.heap.size) X42 Sp42 Gp42 hZ hown
  obtain ⟨r_42, b_42, rfl, N42q, K42q, hq42_0, hq42_1, hq42_2, hq42_3, hq42_4⟩ := hQ42
  have N44 := Fr.app N35 N42q
  have ne45 : r_34 ≠ r_42 := Nat.ne_of_lt (Nat.lt_of_lt_of_le hq34_1.lt hq42_0)
  have ne46 : b_34 ≠ r_42 := Nat.ne_of_lt (Nat.lt_of_lt_of_le hq34_4.lt hq42_0)
  have g47 : n0 ≤ r_42 := Nat.le_trans f43 hq42_0
  have bz48 : h0.size ≤ r_42 := Nat.le_trans (K40).1 hq42_0
  have CS49 : CHr Z consts_1 T34.vm (T34.heap) T42.vm (T42.heap) := cc42
  have CR50 := CR39.trans CS49
  have K51 : Keep h0 T42.heap [] := (K40).trans K42q all0
  have f52 := (f41.keep K42q all0)
  have f54 := (Nat.le_trans f43 K42q.1)
  have hZ53 := hZ
  have hown53 := hown
  obtain ⟨_, _, ⟨T53, L53, k53, n53⟩, -, X53, Sp53, Gp53, ⟨Lc53, hQ53, l53, y53, z53, cc53⟩, st53⟩ := callSS X42 hx (y := MN3) hown (mvT hZ wo9) (mvT hZ wo10) (mvT hZ wo2) (mvT hZ wo11) (by decide) (backOfSH (s := s) (vm0 := T42.vm) (W := 0) (rm3 l Z a0 hw [] bla ba0 ba1 cs (T42.heap) n0 f54 f52 pf_S_java_lang_String_COMPACT_STRINGS (hcs : ¬ (cs = (0 : Int32))) (h3bla : bla = 0 ∨ bla = 1 ∨ bla = 2) (hrba0 : ¬ ba0 < 0 ∧ ¬ (255 : Int32) < ba0) (hrba1 : ¬ ba1 < 0 ∧ ¬ (255 : Int32) < ba1)) hZ wo11 wo2 (by decide) (by decide) hEL CR50.1) (g := (mkF m 168 #[.val (.long p0_0), .second, .val (.long p0_1), .second, iv p0_2, iv p0_3, iv p0_4, iv tla, iv ta0, iv ta1, .val (.long (if (p0_4 &&& (1 : Int32)) = (0 : Int32) then p0_0 else ((p0_0.toUInt64 >>> ((18 : Int32) &&& 0x3f).toInt64.toUInt64).toInt64))), .second, iv tlb, iv tb0, iv tb1, iv bla, iv ba0, iv ba1, .val (.long (if (p0_4 &&& (2 : Int32)) = (0 : Int32) then p0_1 else ((p0_1.toUInt64 >>> ((18 : Int32) &&& 0x3f).toInt64.toUInt64).toInt64))), .second, iv blb, iv bb0, iv bb1, iv (if (p0_4 &&& (4 : Int32)) = (0 : Int32) then p0_2 else p0_3), rv r_34, rv r_42, .unset, .unset, .unset, .unset, .unset, .unset] [(.int ba1), (.int ba0), (.int bla)])) rfl (by rw [hml]; rfl) (argsL := [(.int bla), (.int ba0), (.int ba1)]) (rest := []) (lenOf pd_1 rfl) rfl (by show 2 * 0 + _ ≤ _; exact Nat.le_of_eq rfl) (hb hby at_168) (fun _ _ => ⟨rfl, rfl, (by decide : 12 + 6 ≤ _), (by decide : 24 + 12 ≤ _)⟩)
  dsimp only [Pt.U, Pt.locs, Pt.cells, Pt.slots] at X53 l53 y53 z53 st53 hQ53 Sp53 Gp53 cc53
  rw [l53, y53, z53] at X53
  obtain ⟨X53, S53, hZ, hown⟩ := rebS (s := s) (vm0 := T42.vm) (Z := Z) (own := "com/example/topiq/topiq/protocol/MessageQueueEqualsPinLaw") S42 (Nat.le_refl T42.heap.size) X53 Sp53 Gp53 hZ hown
  obtain ⟨r_53, b_53, rfl, N53q, K53q, hq53_0, hq53_1, hq53_2, hq53_3, hq53_4⟩ := hQ53
  have N55 := Fr.app N44 N53q
  have f56 := (hq34_1.keep K42q)
  have ne57 : r_34 ≠ r_53 := Nat.ne_of_lt (Nat.lt_of_lt_of_le f56.lt hq53_0)
  have f58 := (hq34_4.keep K42q nin0)
  have ne59 : b_34 ≠ r_53 := Nat.ne_of_lt (Nat.lt_of_lt_of_le f58.lt hq53_0)
  have ne60 : r_42 ≠ r_53 := Nat.ne_of_lt (Nat.lt_of_lt_of_le hq42_1.lt hq53_0)
  have ne61 : b_42 ≠ r_53 := Nat.ne_of_lt (Nat.lt_of_lt_of_le hq42_4.lt hq53_0)
  have g62 : n0 ≤ r_53 := Nat.le_trans f54 hq53_0
  have bz63 : h0.size ≤ r_53 := Nat.le_trans (K51).1 hq53_0
  have CS64 : CHr Z consts_1 T42.vm (T42.heap) T53.vm (T53.heap) := cc53
  have CR65 := CR50.trans CS64
  have K66 : Keep h0 T53.heap [] := (K51).trans K53q all0
  have f67 := (f52.keep K53q all0)
  have f69 := (Nat.le_trans f54 K53q.1)
  have hZ68 := hZ
  have hown68 := hown
  obtain ⟨_, _, ⟨T68, L68, k68, n68⟩, -, X68, Sp68, Gp68, ⟨Lc68, hQ68, l68, y68, z68, cc68⟩, st68⟩ := callSS X53 hx (y := MN3) hown (mvT hZ wo9) (mvT hZ wo10) (mvT hZ wo2) (mvT hZ wo11) (by decide) (backOfSH (s := s) (vm0 := T53.vm) (W := 0) (rm3 l Z a0 hw [] blb bb0 bb1 cs (T53.heap) n0 f69 f67 pf_S_java_lang_String_COMPACT_STRINGS (hcs : ¬ (cs = (0 : Int32))) (h3blb : blb = 0 ∨ blb = 1 ∨ blb = 2) (hrbb0 : ¬ bb0 < 0 ∧ ¬ (255 : Int32) < bb0) (hrbb1 : ¬ bb1 < 0 ∧ ¬ (255 : Int32) < bb1)) hZ wo11 wo2 (by decide) (by decide) hEL CR65.1) (g := (mkF m 179 #[.val (.long p0_0), .second, .val (.long p0_1), .second, iv p0_2, iv p0_3, iv p0_4, iv tla, iv ta0, iv ta1, .val (.long (if (p0_4 &&& (1 : Int32)) = (0 : Int32) then p0_0 else ((p0_0.toUInt64 >>> ((18 : Int32) &&& 0x3f).toInt64.toUInt64).toInt64))), .second, iv tlb, iv tb0, iv tb1, iv bla, iv ba0, iv ba1, .val (.long (if (p0_4 &&& (2 : Int32)) = (0 : Int32) then p0_1 else ((p0_1.toUInt64 >>> ((18 : Int32) &&& 0x3f).toInt64.toUInt64).toInt64))), .second, iv blb, iv bb0, iv bb1, iv (if (p0_4 &&& (4 : Int32)) = (0 : Int32) then p0_2 else p0_3), rv r_34, rv r_42, rv r_53, .unset, .unset, .unset, .unset, .unset] [(.int bb1), (.int bb0), (.int blb)])) rfl (by rw [hml]; rfl) (argsL := [(.int blb), (.int bb0), (.int bb1)]) (rest := []) (lenOf pd_1 rfl) rfl (by show 2 * 0 + _ ≤ _; exact Nat.le_of_eq rfl) (hb hby at_179) (fun _ _ => ⟨rfl, rfl, (by decide : 18 + 6 ≤ _), (by decide : 36 + 12 ≤ _)⟩)
  dsimp only [Pt.U, Pt.locs, Pt.cells, Pt.slots] at X68 l68 y68 z68 st68 hQ68 Sp68 Gp68 cc68
  rw [l68, y68, z68] at X68
  obtain ⟨X68, S68, hZ, hown⟩ := rebS (s := s) (vm0 := T53.vm) (Z := Z) (own := "com/example/topiq/topiq/protocol/MessageQueueEqualsPinLaw") S53 (Nat.le_refl T53.heap.size) X68 Sp68 Gp68 hZ hown
  obtain ⟨r_68, b_68, rfl, N68q, K68q, hq68_0, hq68_1, hq68_2, hq68_3, hq68_4⟩ := hQ68
  have N70 := Fr.app N55 N68q
  have f71 := (f56.keep K53q)
  have ne72 : r_34 ≠ r_68 := Nat.ne_of_lt (Nat.lt_of_lt_of_le f71.lt hq68_0)
  have f73 := (f58.keep K53q nin0)
  have ne74 : b_34 ≠ r_68 := Nat.ne_of_lt (Nat.lt_of_lt_of_le f73.lt hq68_0)
  have f75 := (hq42_1.keep K53q)
  have ne76 : r_42 ≠ r_68 := Nat.ne_of_lt (Nat.lt_of_lt_of_le f75.lt hq68_0)
  have f77 := (hq42_4.keep K53q nin0)
  have ne78 : b_42 ≠ r_68 := Nat.ne_of_lt (Nat.lt_of_lt_of_le f77.lt hq68_0)
  have ne79 : r_53 ≠ r_68 := Nat.ne_of_lt (Nat.lt_of_lt_of_le hq53_1.lt hq68_0)
  have ne80 : b_53 ≠ r_68 := Nat.ne_of_lt (Nat.lt_of_lt_of_le hq53_4.lt hq68_0)
  have g81 : n0 ≤ r_68 := Nat.le_trans f69 hq68_0
  have bz82 : h0.size ≤ r_68 := Nat.le_trans (K66).1 hq68_0
  have CS83 : CHr Z consts_1 T53.vm (T53.heap) T68.vm (T68.heap) := cc68
  have CR84 := CR65.trans CS83
  have K85 : Keep h0 T68.heap [] := (K66).trans K68q all0
  obtain ⟨T86, h86, X86, e86, E86, A86, D86, -, st86⟩ := newO X68 hx hZ hown wo42 wo43 wo44 rfl (g := (mkF m 184 #[.val (.long p0_0), .second, .val (.long p0_1), .second, iv p0_2, iv p0_3, iv p0_4, iv tla, iv ta0, iv ta1, .val (.long (if (p0_4 &&& (1 : Int32)) = (0 : Int32) then p0_0 else ((p0_0.toUInt64 >>> ((18 : Int32) &&& 0x3f).toInt64.toUInt64).toInt64))), .second, iv tlb, iv tb0, iv tb1, iv bla, iv ba0, iv ba1, .val (.long (if (p0_4 &&& (2 : Int32)) = (0 : Int32) then p0_1 else ((p0_1.toUInt64 >>> ((18 : Int32) &&& 0x3f).toInt64.toUInt64).toInt64))), .second, iv blb, iv bb0, iv bb1, iv (if (p0_4 &&& (4 : Int32)) = (0 : Int32) then p0_2 else p0_3), rv r_34, rv r_42, rv r_53, rv r_68, .unset, .unset, .unset, .unset] [])) rfl (hb hby at_184) (by decide) (by decide)
  obtain ⟨b86, gg86⟩ : ∃ z, z = T68.heap.size := ⟨_, rfl⟩
  rw [← gg86] at A86 D86 st86
  have f87 := (f71.keep K68q)
  have ne88 : r_34 ≠ b86 := Nat.ne_of_lt (Nat.lt_of_lt_of_le f87.lt (Nat.le_of_eq gg86.symm))
  have f89 := (f73.keep K68q nin0)
  have ne90 : b_34 ≠ b86 := Nat.ne_of_lt (Nat.lt_of_lt_of_le f89.lt (Nat.le_of_eq gg86.symm))
  have f91 := (f75.keep K68q)
  have ne92 : r_42 ≠ b86 := Nat.ne_of_lt (Nat.lt_of_lt_of_le f91.lt (Nat.le_of_eq gg86.symm))
  have f93 := (f77.keep K68q nin0)
  have ne94 : b_42 ≠ b86 := Nat.ne_of_lt (Nat.lt_of_lt_of_le f93.lt (Nat.le_of_eq gg86.symm))
  have f95 := (hq53_1.keep K68q)
  have ne96 : r_53 ≠ b86 := Nat.ne_of_lt (Nat.lt_of_lt_of_le f95.lt (Nat.le_of_eq gg86.symm))
  have f97 := (hq53_4.keep K68q nin0)
  have ne98 : b_53 ≠ b86 := Nat.ne_of_lt (Nat.lt_of_lt_of_le f97.lt (Nat.le_of_eq gg86.symm))
  have ne99 : r_68 ≠ b86 := Nat.ne_of_lt (Nat.lt_of_lt_of_le hq68_1.lt (Nat.le_of_eq gg86.symm))
  have ne100 : b_68 ≠ b86 := Nat.ne_of_lt (Nat.lt_of_lt_of_le hq68_4.lt (Nat.le_of_eq gg86.symm))
  have f102 := (Nat.le_trans f69 K68q.1)
  have g101 : n0 ≤ b86 := Nat.le_trans f102 (Nat.le_of_eq gg86.symm)
  have bz103 : h0.size ≤ b86 := Nat.le_trans (K85).1 (Nat.le_of_eq gg86.symm)
  have CS104 : CHr Z consts_1 T68.vm (T68.heap) T68.vm h86 := (CHr.ext E86 CR84.1)
  have CR105 := CR84.trans CS104
  have K106 : Keep h0 h86 [] := (K85).ext E86
  have f107 : Fld Z h86 b86 "com/example/topiq/topiq/protocol/MessageQueue" "topic" "Ljava/lang/String;" .null := D86 (Or.inr wo50) (ty := (.object "java/lang/String")) (by decide)
  have f108 : Fld Z h86 b86 "com/example/topiq/topiq/protocol/MessageQueue" "brokerName" "Ljava/lang/String;" .null := D86 (Or.inr wo52) (ty := (.object "java/lang/String")) (by decide)
  have f109 : Fld Z h86 b86 "com/example/topiq/topiq/protocol/MessageQueue" "queueId" "I" (.int (0 : Int32)) := D86 (Or.inr wo54) (ty := .int) (by decide)
  have f111 := (Nat.le_trans f102 E86.1)
  obtain ⟨_, _, ⟨T110, L110, k110, n110⟩, -, X110, ⟨Lc110, hQ110, l110, y110, z110⟩, st110⟩ := X86.specialBack hx (y := MN10) rfl hown (mvT hZ wo45) (mvT hZ wo46) (mvT hZ wo47) (by decide) (backOf (W := 1) (rm10 l Z a0 hw [] b86 r_34 r_53 p0_2 h86 n0 f111 A86 g101 f107 f108 f109) hZ wo47 wo44 (by decide) (by decide)) (g := (mkF m 194 #[.val (.long p0_0), .second, .val (.long p0_1), .second, iv p0_2, iv p0_3, iv p0_4, iv tla, iv ta0, iv ta1, .val (.long (if (p0_4 &&& (1 : Int32)) = (0 : Int32) then p0_0 else ((p0_0.toUInt64 >>> ((18 : Int32) &&& 0x3f).toInt64.toUInt64).toInt64))), .second, iv tlb, iv tb0, iv tb1, iv bla, iv ba0, iv ba1, .val (.long (if (p0_4 &&& (2 : Int32)) = (0 : Int32) then p0_1 else ((p0_1.toUInt64 >>> ((18 : Int32) &&& 0x3f).toInt64.toUInt64).toInt64))), .second, iv blb, iv bb0, iv bb1, iv (if (p0_4 &&& (4 : Int32)) = (0 : Int32) then p0_2 else p0_3), rv r_34, rv r_42, rv r_53, rv r_68, .unset, .unset, .unset, .unset] [(.int p0_2), (.ref r_53), (.ref r_34), (.ref b86), (.ref b86)])) rfl (by rw [hml]; rfl) (Steps.refl _) (a := b86) (argsL := [(.ref r_34), (.ref r_53), (.int p0_2)]) (rest := [(.ref b86)]) (lenOf pd_6 rfl) rfl (by show 2 * 0 + _ ≤ _; exact Nat.le_of_eq rfl) (hb hby at_194) (fun _ _ => ⟨rfl, e86, (by decide : 25 + 0 ≤ _), (by decide : 51 + 0 ≤ _)⟩)
  dsimp only [Pt.U, Pt.locs, Pt.cells, Pt.slots] at X110 l110 y110 z110 st110 hQ110
  rw [l110, y110, z110] at X110
  obtain ⟨rfl, N110q, K110q, hq110_0, hq110_1, hq110_2⟩ := hQ110
  have N112 := Fr.app N70 N110q
  have CS113 : CHr Z consts_1 T68.vm h86 T68.vm (T110.heap) := (CHr.keep K110q (allS (P := fun x => Safe Z consts_1 T68.vm _ x) (Safe.exa hZ.alike A86 (by decide) (by decide)) all0) CR105.1)
  have CR114 := CR105.trans CS113
  have K115 : Keep h0 T110.heap [] := (K106).trans K110q (allS (P := fun x => x ∈ [] ∨ h0.size ≤ x) (Or.inr bz103) all0)
  have pre117 : ∀ t, Steps p.tables e below (T110.setTop (mkF m 211 #[.val (.long p0_0), .second, .val (.long p0_1), .second, iv p0_2, iv p0_3, iv p0_4, iv tla, iv ta0, iv ta1, .val (.long (if (p0_4 &&& (1 : Int32)) = (0 : Int32) then p0_0 else ((p0_0.toUInt64 >>> ((18 : Int32) &&& 0x3f).toInt64.toUInt64).toInt64))), .second, iv tlb, iv tb0, iv tb1, iv bla, iv ba0, iv ba1, .val (.long (if (p0_4 &&& (2 : Int32)) = (0 : Int32) then p0_1 else ((p0_1.toUInt64 >>> ((18 : Int32) &&& 0x3f).toInt64.toUInt64).toInt64))), .second, iv blb, iv bb0, iv bb1, iv (if (p0_4 &&& (4 : Int32)) = (0 : Int32) then p0_2 else p0_3), rv r_34, rv r_42, rv r_53, rv r_68, rv b86, iv (((p0_4.toUInt32 >>> ((3 : Int32) &&& 31).toUInt32).toInt32) &&& (7 : Int32)), .unset, .unset] [(.int (1 : Int32)), (.int (((p0_4.toUInt32 >>> ((3 : Int32) &&& 31).toUInt32).toInt32) &&& (7 : Int32)))])) t → Steps p.tables e below (s₁.setTop (entryFrame m #[(.long p0_0), (.long p0_1), (.int p0_2), (.int p0_3), (.int p0_4)] maxLocals)) t := by
    intro t_ k_
    refine pre33 _ ?_
    show Steps p.tables e below (T29.setTop (mkF m 138 #[.val (.long p0_0), .second, .val (.long p0_1), .second, iv p0_2, iv p0_3, iv p0_4, iv tla, iv ta0, iv ta1, .val (.long (if (p0_4 &&& (1 : Int32)) = (0 : Int32) then p0_0 else ((p0_0.toUInt64 >>> ((18 : Int32) &&& 0x3f).toInt64.toUInt64).toInt64))), .second, iv tlb, iv tb0, iv tb1, iv bla, iv ba0, iv ba1, .val (.long (if (p0_4 &&& (2 : Int32)) = (0 : Int32) then p0_1 else ((p0_1.toUInt64 >>> ((18 : Int32) &&& 0x3f).toInt64.toUInt64).toInt64))), .second, iv blb, iv bb0, iv bb1, .unset, .unset, .unset, .unset, .unset, .unset, .unset, .unset, .unset] [(.int (if (p0_4 &&& (4 : Int32)) = (0 : Int32) then p0_2 else p0_3))])) _
    refine XS.istore X29.here hx rfl (hb hby at_138) rfl (l' := #[.val (.long p0_0), .second, .val (.long p0_1), .second, iv p0_2, iv p0_3, iv p0_4, iv tla, iv ta0, iv ta1, .val (.long (if (p0_4 &&& (1 : Int32)) = (0 : Int32) then p0_0 else ((p0_0.toUInt64 >>> ((18 : Int32) &&& 0x3f).toInt64.toUInt64).toInt64))), .second, iv tlb, iv tb0, iv tb1, iv bla, iv ba0, iv ba1, .val (.long (if (p0_4 &&& (2 : Int32)) = (0 : Int32) then p0_1 else ((p0_1.toUInt64 >>> ((18 : Int32) &&& 0x3f).toInt64.toUInt64).toInt64))), .second, iv blb, iv bb0, iv bb1, iv (if (p0_4 &&& (4 : Int32)) = (0 : Int32) then p0_2 else p0_3), .unset, .unset, .unset, .unset, .unset, .unset, .unset, .unset]) rfl ?_
    show Steps p.tables e below (T29.setTop (mkF m 140 #[.val (.long p0_0), .second, .val (.long p0_1), .second, iv p0_2, iv p0_3, iv p0_4, iv tla, iv ta0, iv ta1, .val (.long (if (p0_4 &&& (1 : Int32)) = (0 : Int32) then p0_0 else ((p0_0.toUInt64 >>> ((18 : Int32) &&& 0x3f).toInt64.toUInt64).toInt64))), .second, iv tlb, iv tb0, iv tb1, iv bla, iv ba0, iv ba1, .val (.long (if (p0_4 &&& (2 : Int32)) = (0 : Int32) then p0_1 else ((p0_1.toUInt64 >>> ((18 : Int32) &&& 0x3f).toInt64.toUInt64).toInt64))), .second, iv blb, iv bb0, iv bb1, iv (if (p0_4 &&& (4 : Int32)) = (0 : Int32) then p0_2 else p0_3), .unset, .unset, .unset, .unset, .unset, .unset, .unset, .unset] [])) _
    refine XS.iload X29.here hx rfl (hb hby at_140) rfl ?_
    show Steps p.tables e below (T29.setTop (mkF m 142 #[.val (.long p0_0), .second, .val (.long p0_1), .second, iv p0_2, iv p0_3, iv p0_4, iv tla, iv ta0, iv ta1, .val (.long (if (p0_4 &&& (1 : Int32)) = (0 : Int32) then p0_0 else ((p0_0.toUInt64 >>> ((18 : Int32) &&& 0x3f).toInt64.toUInt64).toInt64))), .second, iv tlb, iv tb0, iv tb1, iv bla, iv ba0, iv ba1, .val (.long (if (p0_4 &&& (2 : Int32)) = (0 : Int32) then p0_1 else ((p0_1.toUInt64 >>> ((18 : Int32) &&& 0x3f).toInt64.toUInt64).toInt64))), .second, iv blb, iv bb0, iv bb1, iv (if (p0_4 &&& (4 : Int32)) = (0 : Int32) then p0_2 else p0_3), .unset, .unset, .unset, .unset, .unset, .unset, .unset, .unset] [(.int tla)])) _
    refine XS.iload X29.here hx rfl (hb hby at_142) rfl ?_
    show Steps p.tables e below (T29.setTop (mkF m 144 #[.val (.long p0_0), .second, .val (.long p0_1), .second, iv p0_2, iv p0_3, iv p0_4, iv tla, iv ta0, iv ta1, .val (.long (if (p0_4 &&& (1 : Int32)) = (0 : Int32) then p0_0 else ((p0_0.toUInt64 >>> ((18 : Int32) &&& 0x3f).toInt64.toUInt64).toInt64))), .second, iv tlb, iv tb0, iv tb1, iv bla, iv ba0, iv ba1, .val (.long (if (p0_4 &&& (2 : Int32)) = (0 : Int32) then p0_1 else ((p0_1.toUInt64 >>> ((18 : Int32) &&& 0x3f).toInt64.toUInt64).toInt64))), .second, iv blb, iv bb0, iv bb1, iv (if (p0_4 &&& (4 : Int32)) = (0 : Int32) then p0_2 else p0_3), .unset, .unset, .unset, .unset, .unset, .unset, .unset, .unset] [(.int ta0), (.int tla)])) _
    refine XS.iload X29.here hx rfl (hb hby at_144) rfl ?_
    show Steps p.tables e below (T29.setTop (mkF m 146 #[.val (.long p0_0), .second, .val (.long p0_1), .second, iv p0_2, iv p0_3, iv p0_4, iv tla, iv ta0, iv ta1, .val (.long (if (p0_4 &&& (1 : Int32)) = (0 : Int32) then p0_0 else ((p0_0.toUInt64 >>> ((18 : Int32) &&& 0x3f).toInt64.toUInt64).toInt64))), .second, iv tlb, iv tb0, iv tb1, iv bla, iv ba0, iv ba1, .val (.long (if (p0_4 &&& (2 : Int32)) = (0 : Int32) then p0_1 else ((p0_1.toUInt64 >>> ((18 : Int32) &&& 0x3f).toInt64.toUInt64).toInt64))), .second, iv blb, iv bb0, iv bb1, iv (if (p0_4 &&& (4 : Int32)) = (0 : Int32) then p0_2 else p0_3), .unset, .unset, .unset, .unset, .unset, .unset, .unset, .unset] [(.int ta1), (.int ta0), (.int tla)])) _
    refine st34.trans ?_
    show Steps p.tables e below (T34.setTop (mkF m 149 #[.val (.long p0_0), .second, .val (.long p0_1), .second, iv p0_2, iv p0_3, iv p0_4, iv tla, iv ta0, iv ta1, .val (.long (if (p0_4 &&& (1 : Int32)) = (0 : Int32) then p0_0 else ((p0_0.toUInt64 >>> ((18 : Int32) &&& 0x3f).toInt64.toUInt64).toInt64))), .second, iv tlb, iv tb0, iv tb1, iv bla, iv ba0, iv ba1, .val (.long (if (p0_4 &&& (2 : Int32)) = (0 : Int32) then p0_1 else ((p0_1.toUInt64 >>> ((18 : Int32) &&& 0x3f).toInt64.toUInt64).toInt64))), .second, iv blb, iv bb0, iv bb1, iv (if (p0_4 &&& (4 : Int32)) = (0 : Int32) then p0_2 else p0_3), .unset, .unset, .unset, .unset, .unset, .unset, .unset, .unset] [(.ref r_34)])) _
    refine XS.astore X34.here hx rfl (hb hby at_149) rfl rfl (l' := #[.val (.long p0_0), .second, .val (.long p0_1), .second, iv p0_2, iv p0_3, iv p0_4, iv tla, iv ta0, iv ta1, .val (.long (if (p0_4 &&& (1 : Int32)) = (0 : Int32) then p0_0 else ((p0_0.toUInt64 >>> ((18 : Int32) &&& 0x3f).toInt64.toUInt64).toInt64))), .second, iv tlb, iv tb0, iv tb1, iv bla, iv ba0, iv ba1, .val (.long (if (p0_4 &&& (2 : Int32)) = (0 : Int32) then p0_1 else ((p0_1.toUInt64 >>> ((18 : Int32) &&& 0x3f).toInt64.toUInt64).toInt64))), .second, iv blb, iv bb0, iv bb1, iv (if (p0_4 &&& (4 : Int32)) = (0 : Int32) then p0_2 else p0_3), rv r_34, .unset, .unset, .unset, .unset, .unset, .unset, .unset]) rfl ?_
    show Steps p.tables e below (T34.setTop (mkF m 151 #[.val (.long p0_0), .second, .val (.long p0_1), .second, iv p0_2, iv p0_3, iv p0_4, iv tla, iv ta0, iv ta1, .val (.long (if (p0_4 &&& (1 : Int32)) = (0 : Int32) then p0_0 else ((p0_0.toUInt64 >>> ((18 : Int32) &&& 0x3f).toInt64.toUInt64).toInt64))), .second, iv tlb, iv tb0, iv tb1, iv bla, iv ba0, iv ba1, .val (.long (if (p0_4 &&& (2 : Int32)) = (0 : Int32) then p0_1 else ((p0_1.toUInt64 >>> ((18 : Int32) &&& 0x3f).toInt64.toUInt64).toInt64))), .second, iv blb, iv bb0, iv bb1, iv (if (p0_4 &&& (4 : Int32)) = (0 : Int32) then p0_2 else p0_3), rv r_34, .unset, .unset, .unset, .unset, .unset, .unset, .unset] [])) _
    refine XS.iload X34.here hx rfl (hb hby at_151) rfl ?_
    show Steps p.tables e below (T34.setTop (mkF m 153 #[.val (.long p0_0), .second, .val (.long p0_1), .second, iv p0_2, iv p0_3, iv p0_4, iv tla, iv ta0, iv ta1, .val (.long (if (p0_4 &&& (1 : Int32)) = (0 : Int32) then p0_0 else ((p0_0.toUInt64 >>> ((18 : Int32) &&& 0x3f).toInt64.toUInt64).toInt64))), .second, iv tlb, iv tb0, iv tb1, iv bla, iv ba0, iv ba1, .val (.long (if (p0_4 &&& (2 : Int32)) = (0 : Int32) then p0_1 else ((p0_1.toUInt64 >>> ((18 : Int32) &&& 0x3f).toInt64.toUInt64).toInt64))), .second, iv blb, iv bb0, iv bb1, iv (if (p0_4 &&& (4 : Int32)) = (0 : Int32) then p0_2 else p0_3), rv r_34, .unset, .unset, .unset, .unset, .unset, .unset, .unset] [(.int tlb)])) _
    refine XS.iload X34.here hx rfl (hb hby at_153) rfl ?_
    show Steps p.tables e below (T34.setTop (mkF m 155 #[.val (.long p0_0), .second, .val (.long p0_1), .second, iv p0_2, iv p0_3, iv p0_4, iv tla, iv ta0, iv ta1, .val (.long (if (p0_4 &&& (1 : Int32)) = (0 : Int32) then p0_0 else ((p0_0.toUInt64 >>> ((18 : Int32) &&& 0x3f).toInt64.toUInt64).toInt64))), .second, iv tlb, iv tb0, iv tb1, iv bla, iv ba0, iv ba1, .val (.long (if (p0_4 &&& (2 : Int32)) = (0 : Int32) then p0_1 else ((p0_1.toUInt64 >>> ((18 : Int32) &&& 0x3f).toInt64.toUInt64).toInt64))), .second, iv blb, iv bb0, iv bb1, iv (if (p0_4 &&& (4 : Int32)) = (0 : Int32) then p0_2 else p0_3), rv r_34, .unset, .unset, .unset, .unset, .unset, .unset, .unset] [(.int tb0), (.int tlb)])) _
    refine XS.iload X34.here hx rfl (hb hby at_155) rfl ?_
    show Steps p.tables e below (T34.setTop (mkF m 157 #[.val (.long p0_0), .second, .val (.long p0_1), .second, iv p0_2, iv p0_3, iv p0_4, iv tla, iv ta0, iv ta1, .val (.long (if (p0_4 &&& (1 : Int32)) = (0 : Int32) then p0_0 else ((p0_0.toUInt64 >>> ((18 : Int32) &&& 0x3f).toInt64.toUInt64).toInt64))), .second, iv tlb, iv tb0, iv tb1, iv bla, iv ba0, iv ba1, .val (.long (if (p0_4 &&& (2 : Int32)) = (0 : Int32) then p0_1 else ((p0_1.toUInt64 >>> ((18 : Int32) &&& 0x3f).toInt64.toUInt64).toInt64))), .second, iv blb, iv bb0, iv bb1, iv (if (p0_4 &&& (4 : Int32)) = (0 : Int32) then p0_2 else p0_3), rv r_34, .unset, .unset, .unset, .unset, .unset, .unset, .unset] [(.int tb1), (.int tb0), (.int tlb)])) _
    refine st42.trans ?_
    show Steps p.tables e below (T42.setTop (mkF m 160 #[.val (.long p0_0), .second, .val (.long p0_1), .second, iv p0_2, iv p0_3, iv p0_4, iv tla, iv ta0, iv ta1, .val (.long (if (p0_4 &&& (1 : Int32)) = (0 : Int32) then p0_0 else ((p0_0.toUInt64 >>> ((18 : Int32) &&& 0x3f).toInt64.toUInt64).toInt64))), .second, iv tlb, iv tb0, iv tb1, iv bla, iv ba0, iv ba1, .val (.long (if (p0_4 &&& (2 : Int32)) = (0 : Int32) then p0_1 else ((p0_1.toUInt64 >>> ((18 : Int32) &&& 0x3f).toInt64.toUInt64).toInt64))), .second, iv blb, iv bb0, iv bb1, iv (if (p0_4 &&& (4 : Int32)) = (0 : Int32) then p0_2 else p0_3), rv r_34, .unset, .unset, .unset, .unset, .unset, .unset, .unset] [(.ref r_42)])) _
    refine XS.astore X42.here hx rfl (hb hby at_160) rfl rfl (l' := #[.val (.long p0_0), .second, .val (.long p0_1), .second, iv p0_2, iv p0_3, iv p0_4, iv tla, iv ta0, iv ta1, .val (.long (if (p0_4 &&& (1 : Int32)) = (0 : Int32) then p0_0 else ((p0_0.toUInt64 >>> ((18 : Int32) &&& 0x3f).toInt64.toUInt64).toInt64))), .second, iv tlb, iv tb0, iv tb1, iv bla, iv ba0, iv ba1, .val (.long (if (p0_4 &&& (2 : Int32)) = (0 : Int32) then p0_1 else ((p0_1.toUInt64 >>> ((18 : Int32) &&& 0x3f).toInt64.toUInt64).toInt64))), .second, iv blb, iv bb0, iv bb1, iv (if (p0_4 &&& (4 : Int32)) = (0 : Int32) then p0_2 else p0_3), rv r_34, rv r_42, .unset, .unset, .unset, .unset, .unset, .unset]) rfl ?_
    show Steps p.tables e below (T42.setTop (mkF m 162 #[.val (.long p0_0), .second, .val (.long p0_1), .second, iv p0_2, iv p0_3, iv p0_4, iv tla, iv ta0, iv ta1, .val (.long (if (p0_4 &&& (1 : Int32)) = (0 : Int32) then p0_0 else ((p0_0.toUInt64 >>> ((18 : Int32) &&& 0x3f).toInt64.toUInt64).toInt64))), .second, iv tlb, iv tb0, iv tb1, iv bla, iv ba0, iv ba1, .val (.long (if (p0_4 &&& (2 : Int32)) = (0 : Int32) then p0_1 else ((p0_1.toUInt64 >>> ((18 : Int32) &&& 0x3f).toInt64.toUInt64).toInt64))), .second, iv blb, iv bb0, iv bb1, iv (if (p0_4 &&& (4 : Int32)) = (0 : Int32) then p0_2 else p0_3), rv r_34, rv r_42, .unset, .unset, .unset, .unset, .unset, .unset] [])) _
    refine XS.iload X42.here hx rfl (hb hby at_162) rfl ?_
    show Steps p.tables e below (T42.setTop (mkF m 164 #[.val (.long p0_0), .second, .val (.long p0_1), .second, iv p0_2, iv p0_3, iv p0_4, iv tla, iv ta0, iv ta1, .val (.long (if (p0_4 &&& (1 : Int32)) = (0 : Int32) then p0_0 else ((p0_0.toUInt64 >>> ((18 : Int32) &&& 0x3f).toInt64.toUInt64).toInt64))), .second, iv tlb, iv tb0, iv tb1, iv bla, iv ba0, iv ba1, .val (.long (if (p0_4 &&& (2 : Int32)) = (0 : Int32) then p0_1 else ((p0_1.toUInt64 >>> ((18 : Int32) &&& 0x3f).toInt64.toUInt64).toInt64))), .second, iv blb, iv bb0, iv bb1, iv (if (p0_4 &&& (4 : Int32)) = (0 : Int32) then p0_2 else p0_3), rv r_34, rv r_42, .unset, .unset, .unset, .unset, .unset, .unset] [(.int bla)])) _
    refine XS.iload X42.here hx rfl (hb hby at_164) rfl ?_
    show Steps p.tables e below (T42.setTop (mkF m 166 #[.val (.long p0_0), .second, .val (.long p0_1), .second, iv p0_2, iv p0_3, iv p0_4, iv tla, iv ta0, iv ta1, .val (.long (if (p0_4 &&& (1 : Int32)) = (0 : Int32) then p0_0 else ((p0_0.toUInt64 >>> ((18 : Int32) &&& 0x3f).toInt64.toUInt64).toInt64))), .second, iv tlb, iv tb0, iv tb1, iv bla, iv ba0, iv ba1, .val (.long (if (p0_4 &&& (2 : Int32)) = (0 : Int32) then p0_1 else ((p0_1.toUInt64 >>> ((18 : Int32) &&& 0x3f).toInt64.toUInt64).toInt64))), .second, iv blb, iv bb0, iv bb1, iv (if (p0_4 &&& (4 : Int32)) = (0 : Int32) then p0_2 else p0_3), rv r_34, rv r_42, .unset, .unset, .unset, .unset, .unset, .unset] [(.int ba0), (.int bla)])) _
    refine XS.iload X42.here hx rfl (hb hby at_166) rfl ?_
    show Steps p.tables e below (T42.setTop (mkF m 168 #[.val (.long p0_0), .second, .val (.long p0_1), .second, iv p0_2, iv p0_3, iv p0_4, iv tla, iv ta0, iv ta1, .val (.long (if (p0_4 &&& (1 : Int32)) = (0 : Int32) then p0_0 else ((p0_0.toUInt64 >>> ((18 : Int32) &&& 0x3f).toInt64.toUInt64).toInt64))), .second, iv tlb, iv tb0, iv tb1, iv bla, iv ba0, iv ba1, .val (.long (if (p0_4 &&& (2 : Int32)) = (0 : Int32) then p0_1 else ((p0_1.toUInt64 >>> ((18 : Int32) &&& 0x3f).toInt64.toUInt64).toInt64))), .second, iv blb, iv bb0, iv bb1, iv (if (p0_4 &&& (4 : Int32)) = (0 : Int32) then p0_2 else p0_3), rv r_34, rv r_42, .unset, .unset, .unset, .unset, .unset, .unset] [(.int ba1), (.int ba0), (.int bla)])) _
    refine st53.trans ?_
    show Steps p.tables e below (T53.setTop (mkF m 171 #[.val (.long p0_0), .second, .val (.long p0_1), .second, iv p0_2, iv p0_3, iv p0_4, iv tla, iv ta0, iv ta1, .val (.long (if (p0_4 &&& (1 : Int32)) = (0 : Int32) then p0_0 else ((p0_0.toUInt64 >>> ((18 : Int32) &&& 0x3f).toInt64.toUInt64).toInt64))), .second, iv tlb, iv tb0, iv tb1, iv bla, iv ba0, iv ba1, .val (.long (if (p0_4 &&& (2 : Int32)) = (0 : Int32) then p0_1 else ((p0_1.toUInt64 >>> ((18 : Int32) &&& 0x3f).toInt64.toUInt64).toInt64))), .second, iv blb, iv bb0, iv bb1, iv (if (p0_4 &&& (4 : Int32)) = (0 : Int32) then p0_2 else p0_3), rv r_34, rv r_42, .unset, .unset, .unset, .unset, .unset, .unset] [(.ref r_53)])) _
    refine XS.astore X53.here hx rfl (hb hby at_171) rfl rfl (l' := #[.val (.long p0_0), .second, .val (.long p0_1), .second, iv p0_2, iv p0_3, iv p0_4, iv tla, iv ta0, iv ta1, .val (.long (if (p0_4 &&& (1 : Int32)) = (0 : Int32) then p0_0 else ((p0_0.toUInt64 >>> ((18 : Int32) &&& 0x3f).toInt64.toUInt64).toInt64))), .second, iv tlb, iv tb0, iv tb1, iv bla, iv ba0, iv ba1, .val (.long (if (p0_4 &&& (2 : Int32)) = (0 : Int32) then p0_1 else ((p0_1.toUInt64 >>> ((18 : Int32) &&& 0x3f).toInt64.toUInt64).toInt64))), .second, iv blb, iv bb0, iv bb1, iv (if (p0_4 &&& (4 : Int32)) = (0 : Int32) then p0_2 else p0_3), rv r_34, rv r_42, rv r_53, .unset, .unset, .unset, .unset, .unset]) rfl ?_
    show Steps p.tables e below (T53.setTop (mkF m 173 #[.val (.long p0_0), .second, .val (.long p0_1), .second, iv p0_2, iv p0_3, iv p0_4, iv tla, iv ta0, iv ta1, .val (.long (if (p0_4 &&& (1 : Int32)) = (0 : Int32) then p0_0 else ((p0_0.toUInt64 >>> ((18 : Int32) &&& 0x3f).toInt64.toUInt64).toInt64))), .second, iv tlb, iv tb0, iv tb1, iv bla, iv ba0, iv ba1, .val (.long (if (p0_4 &&& (2 : Int32)) = (0 : Int32) then p0_1 else ((p0_1.toUInt64 >>> ((18 : Int32) &&& 0x3f).toInt64.toUInt64).toInt64))), .second, iv blb, iv bb0, iv bb1, iv (if (p0_4 &&& (4 : Int32)) = (0 : Int32) then p0_2 else p0_3), rv r_34, rv r_42, rv r_53, .unset, .unset, .unset, .unset, .unset] [])) _
    refine XS.iload X53.here hx rfl (hb hby at_173) rfl ?_
    show Steps p.tables e below (T53.setTop (mkF m 175 #[.val (.long p0_0), .second, .val (.long p0_1), .second, iv p0_2, iv p0_3, iv p0_4, iv tla, iv ta0, iv ta1, .val (.long (if (p0_4 &&& (1 : Int32)) = (0 : Int32) then p0_0 else ((p0_0.toUInt64 >>> ((18 : Int32) &&& 0x3f).toInt64.toUInt64).toInt64))), .second, iv tlb, iv tb0, iv tb1, iv bla, iv ba0, iv ba1, .val (.long (if (p0_4 &&& (2 : Int32)) = (0 : Int32) then p0_1 else ((p0_1.toUInt64 >>> ((18 : Int32) &&& 0x3f).toInt64.toUInt64).toInt64))), .second, iv blb, iv bb0, iv bb1, iv (if (p0_4 &&& (4 : Int32)) = (0 : Int32) then p0_2 else p0_3), rv r_34, rv r_42, rv r_53, .unset, .unset, .unset, .unset, .unset] [(.int blb)])) _
    refine XS.iload X53.here hx rfl (hb hby at_175) rfl ?_
    show Steps p.tables e below (T53.setTop (mkF m 177 #[.val (.long p0_0), .second, .val (.long p0_1), .second, iv p0_2, iv p0_3, iv p0_4, iv tla, iv ta0, iv ta1, .val (.long (if (p0_4 &&& (1 : Int32)) = (0 : Int32) then p0_0 else ((p0_0.toUInt64 >>> ((18 : Int32) &&& 0x3f).toInt64.toUInt64).toInt64))), .second, iv tlb, iv tb0, iv tb1, iv bla, iv ba0, iv ba1, .val (.long (if (p0_4 &&& (2 : Int32)) = (0 : Int32) then p0_1 else ((p0_1.toUInt64 >>> ((18 : Int32) &&& 0x3f).toInt64.toUInt64).toInt64))), .second, iv blb, iv bb0, iv bb1, iv (if (p0_4 &&& (4 : Int32)) = (0 : Int32) then p0_2 else p0_3), rv r_34, rv r_42, rv r_53, .unset, .unset, .unset, .unset, .unset] [(.int bb0), (.int blb)])) _
    refine XS.iload X53.here hx rfl (hb hby at_177) rfl ?_
    show Steps p.tables e below (T53.setTop (mkF m 179 #[.val (.long p0_0), .second, .val (.long p0_1), .second, iv p0_2, iv p0_3, iv p0_4, iv tla, iv ta0, iv ta1, .val (.long (if (p0_4 &&& (1 : Int32)) = (0 : Int32) then p0_0 else ((p0_0.toUInt64 >>> ((18 : Int32) &&& 0x3f).toInt64.toUInt64).toInt64))), .second, iv tlb, iv tb0, iv tb1, iv bla, iv ba0, iv ba1, .val (.long (if (p0_4 &&& (2 : Int32)) = (0 : Int32) then p0_1 else ((p0_1.toUInt64 >>> ((18 : Int32) &&& 0x3f).toInt64.toUInt64).toInt64))), .second, iv blb, iv bb0, iv bb1, iv (if (p0_4 &&& (4 : Int32)) = (0 : Int32) then p0_2 else p0_3), rv r_34, rv r_42, rv r_53, .unset, .unset, .unset, .unset, .unset] [(.int bb1), (.int bb0), (.int blb)])) _
    refine st68.trans ?_
    show Steps p.tables e below (T68.setTop (mkF m 182 #[.val (.long p0_0), .second, .val (.long p0_1), .second, iv p0_2, iv p0_3, iv p0_4, iv tla, iv ta0, iv ta1, .val (.long (if (p0_4 &&& (1 : Int32)) = (0 : Int32) then p0_0 else ((p0_0.toUInt64 >>> ((18 : Int32) &&& 0x3f).toInt64.toUInt64).toInt64))), .second, iv tlb, iv tb0, iv tb1, iv bla, iv ba0, iv ba1, .val (.long (if (p0_4 &&& (2 : Int32)) = (0 : Int32) then p0_1 else ((p0_1.toUInt64 >>> ((18 : Int32) &&& 0x3f).toInt64.toUInt64).toInt64))), .second, iv blb, iv bb0, iv bb1, iv (if (p0_4 &&& (4 : Int32)) = (0 : Int32) then p0_2 else p0_3), rv r_34, rv r_42, rv r_53, .unset, .unset, .unset, .unset, .unset] [(.ref r_68)])) _
    refine XS.astore X68.here hx rfl (hb hby at_182) rfl rfl (l' := #[.val (.long p0_0), .second, .val (.long p0_1), .second, iv p0_2, iv p0_3, iv p0_4, iv tla, iv ta0, iv ta1, .val (.long (if (p0_4 &&& (1 : Int32)) = (0 : Int32) then p0_0 else ((p0_0.toUInt64 >>> ((18 : Int32) &&& 0x3f).toInt64.toUInt64).toInt64))), .second, iv tlb, iv tb0, iv tb1, iv bla, iv ba0, iv ba1, .val (.long (if (p0_4 &&& (2 : Int32)) = (0 : Int32) then p0_1 else ((p0_1.toUInt64 >>> ((18 : Int32) &&& 0x3f).toInt64.toUInt64).toInt64))), .second, iv blb, iv bb0, iv bb1, iv (if (p0_4 &&& (4 : Int32)) = (0 : Int32) then p0_2 else p0_3), rv r_34, rv r_42, rv r_53, rv r_68, .unset, .unset, .unset, .unset]) rfl ?_
    show Steps p.tables e below (T68.setTop (mkF m 184 #[.val (.long p0_0), .second, .val (.long p0_1), .second, iv p0_2, iv p0_3, iv p0_4, iv tla, iv ta0, iv ta1, .val (.long (if (p0_4 &&& (1 : Int32)) = (0 : Int32) then p0_0 else ((p0_0.toUInt64 >>> ((18 : Int32) &&& 0x3f).toInt64.toUInt64).toInt64))), .second, iv tlb, iv tb0, iv tb1, iv bla, iv ba0, iv ba1, .val (.long (if (p0_4 &&& (2 : Int32)) = (0 : Int32) then p0_1 else ((p0_1.toUInt64 >>> ((18 : Int32) &&& 0x3f).toInt64.toUInt64).toInt64))), .second, iv blb, iv bb0, iv bb1, iv (if (p0_4 &&& (4 : Int32)) = (0 : Int32) then p0_2 else p0_3), rv r_34, rv r_42, rv r_53, rv r_68, .unset, .unset, .unset, .unset] [])) _
    refine st86 _ ?_
    show Steps p.tables e below (T86.setTop (mkF m 187 #[.val (.long p0_0), .second, .val (.long p0_1), .second, iv p0_2, iv p0_3, iv p0_4, iv tla, iv ta0, iv ta1, .val (.long (if (p0_4 &&& (1 : Int32)) = (0 : Int32) then p0_0 else ((p0_0.toUInt64 >>> ((18 : Int32) &&& 0x3f).toInt64.toUInt64).toInt64))), .second, iv tlb, iv tb0, iv tb1, iv bla, iv ba0, iv ba1, .val (.long (if (p0_4 &&& (2 : Int32)) = (0 : Int32) then p0_1 else ((p0_1.toUInt64 >>> ((18 : Int32) &&& 0x3f).toInt64.toUInt64).toInt64))), .second, iv blb, iv bb0, iv bb1, iv (if (p0_4 &&& (4 : Int32)) = (0 : Int32) then p0_2 else p0_3), rv r_34, rv r_42, rv r_53, rv r_68, .unset, .unset, .unset, .unset] [(.ref b86)])) _
    refine XS.dup X86.here hx rfl (hb hby at_187) rfl rfl ?_
    show Steps p.tables e below (T86.setTop (mkF m 188 #[.val (.long p0_0), .second, .val (.long p0_1), .second, iv p0_2, iv p0_3, iv p0_4, iv tla, iv ta0, iv ta1, .val (.long (if (p0_4 &&& (1 : Int32)) = (0 : Int32) then p0_0 else ((p0_0.toUInt64 >>> ((18 : Int32) &&& 0x3f).toInt64.toUInt64).toInt64))), .second, iv tlb, iv tb0, iv tb1, iv bla, iv ba0, iv ba1, .val (.long (if (p0_4 &&& (2 : Int32)) = (0 : Int32) then p0_1 else ((p0_1.toUInt64 >>> ((18 : Int32) &&& 0x3f).toInt64.toUInt64).toInt64))), .second, iv blb, iv bb0, iv bb1, iv (if (p0_4 &&& (4 : Int32)) = (0 : Int32) then p0_2 else p0_3), rv r_34, rv r_42, rv r_53, rv r_68, .unset, .unset, .unset, .unset] [(.ref b86), (.ref b86)])) _
    refine XS.aload X86.here hx rfl (hb hby at_188) rfl rfl ?_
    show Steps p.tables e below (T86.setTop (mkF m 190 #[.val (.long p0_0), .second, .val (.long p0_1), .second, iv p0_2, iv p0_3, iv p0_4, iv tla, iv ta0, iv ta1, .val (.long (if (p0_4 &&& (1 : Int32)) = (0 : Int32) then p0_0 else ((p0_0.toUInt64 >>> ((18 : Int32) &&& 0x3f).toInt64.toUInt64).toInt64))), .second, iv tlb, iv tb0, iv tb1, iv bla, iv ba0, iv ba1, .val (.long (if (p0_4 &&& (2 : Int32)) = (0 : Int32) then p0_1 else ((p0_1.toUInt64 >>> ((18 : Int32) &&& 0x3f).toInt64.toUInt64).toInt64))), .second, iv blb, iv bb0, iv bb1, iv (if (p0_4 &&& (4 : Int32)) = (0 : Int32) then p0_2 else p0_3), rv r_34, rv r_42, rv r_53, rv r_68, .unset, .unset, .unset, .unset] [(.ref r_34), (.ref b86), (.ref b86)])) _
    refine XS.aload X86.here hx rfl (hb hby at_190) rfl rfl ?_
    show Steps p.tables e below (T86.setTop (mkF m 192 #[.val (.long p0_0), .second, .val (.long p0_1), .second, iv p0_2, iv p0_3, iv p0_4, iv tla, iv ta0, iv ta1, .val (.long (if (p0_4 &&& (1 : Int32)) = (0 : Int32) then p0_0 else ((p0_0.toUInt64 >>> ((18 : Int32) &&& 0x3f).toInt64.toUInt64).toInt64))), .second, iv tlb, iv tb0, iv tb1, iv bla, iv ba0, iv ba1, .val (.long (if (p0_4 &&& (2 : Int32)) = (0 : Int32) then p0_1 else ((p0_1.toUInt64 >>> ((18 : Int32) &&& 0x3f).toInt64.toUInt64).toInt64))), .second, iv blb, iv bb0, iv bb1, iv (if (p0_4 &&& (4 : Int32)) = (0 : Int32) then p0_2 else p0_3), rv r_34, rv r_42, rv r_53, rv r_68, .unset, .unset, .unset, .unset] [(.ref r_53), (.ref r_34), (.ref b86), (.ref b86)])) _
    refine XS.iload X86.here hx rfl (hb hby at_192) rfl ?_
    show Steps p.tables e below (T86.setTop (mkF m 194 #[.val (.long p0_0), .second, .val (.long p0_1), .second, iv p0_2, iv p0_3, iv p0_4, iv tla, iv ta0, iv ta1, .val (.long (if (p0_4 &&& (1 : Int32)) = (0 : Int32) then p0_0 else ((p0_0.toUInt64 >>> ((18 : Int32) &&& 0x3f).toInt64.toUInt64).toInt64))), .second, iv tlb, iv tb0, iv tb1, iv bla, iv ba0, iv ba1, .val (.long (if (p0_4 &&& (2 : Int32)) = (0 : Int32) then p0_1 else ((p0_1.toUInt64 >>> ((18 : Int32) &&& 0x3f).toInt64.toUInt64).toInt64))), .second, iv blb, iv bb0, iv bb1, iv (if (p0_4 &&& (4 : Int32)) = (0 : Int32) then p0_2 else p0_3), rv r_34, rv r_42, rv r_53, rv r_68, .unset, .unset, .unset, .unset] [(.int p0_2), (.ref r_53), (.ref r_34), (.ref b86), (.ref b86)])) _
    refine st110.trans ?_
    show Steps p.tables e below (T110.setTop (mkF m 197 #[.val (.long p0_0), .second, .val (.long p0_1), .second, iv p0_2, iv p0_3, iv p0_4, iv tla, iv ta0, iv ta1, .val (.long (if (p0_4 &&& (1 : Int32)) = (0 : Int32) then p0_0 else ((p0_0.toUInt64 >>> ((18 : Int32) &&& 0x3f).toInt64.toUInt64).toInt64))), .second, iv tlb, iv tb0, iv tb1, iv bla, iv ba0, iv ba1, .val (.long (if (p0_4 &&& (2 : Int32)) = (0 : Int32) then p0_1 else ((p0_1.toUInt64 >>> ((18 : Int32) &&& 0x3f).toInt64.toUInt64).toInt64))), .second, iv blb, iv bb0, iv bb1, iv (if (p0_4 &&& (4 : Int32)) = (0 : Int32) then p0_2 else p0_3), rv r_34, rv r_42, rv r_53, rv r_68, .unset, .unset, .unset, .unset] [(.ref b86)])) _
    refine XS.astore X110.here hx rfl (hb hby at_197) rfl rfl (l' := #[.val (.long p0_0), .second, .val (.long p0_1), .second, iv p0_2, iv p0_3, iv p0_4, iv tla, iv ta0, iv ta1, .val (.long (if (p0_4 &&& (1 : Int32)) = (0 : Int32) then p0_0 else ((p0_0.toUInt64 >>> ((18 : Int32) &&& 0x3f).toInt64.toUInt64).toInt64))), .second, iv tlb, iv tb0, iv tb1, iv bla, iv ba0, iv ba1, .val (.long (if (p0_4 &&& (2 : Int32)) = (0 : Int32) then p0_1 else ((p0_1.toUInt64 >>> ((18 : Int32) &&& 0x3f).toInt64.toUInt64).toInt64))), .second, iv blb, iv bb0, iv bb1, iv (if (p0_4 &&& (4 : Int32)) = (0 : Int32) then p0_2 else p0_3), rv r_34, rv r_42, rv r_53, rv r_68, rv b86, .unset, .unset, .unset]) rfl ?_
    show Steps p.tables e below (T110.setTop (mkF m 199 #[.val (.long p0_0), .second, .val (.long p0_1), .second, iv p0_2, iv p0_3, iv p0_4, iv tla, iv ta0, iv ta1, .val (.long (if (p0_4 &&& (1 : Int32)) = (0 : Int32) then p0_0 else ((p0_0.toUInt64 >>> ((18 : Int32) &&& 0x3f).toInt64.toUInt64).toInt64))), .second, iv tlb, iv tb0, iv tb1, iv bla, iv ba0, iv ba1, .val (.long (if (p0_4 &&& (2 : Int32)) = (0 : Int32) then p0_1 else ((p0_1.toUInt64 >>> ((18 : Int32) &&& 0x3f).toInt64.toUInt64).toInt64))), .second, iv blb, iv bb0, iv bb1, iv (if (p0_4 &&& (4 : Int32)) = (0 : Int32) then p0_2 else p0_3), rv r_34, rv r_42, rv r_53, rv r_68, rv b86, .unset, .unset, .unset] [])) _
    refine XS.iload X110.here hx rfl (hb hby at_199) rfl ?_
    show Steps p.tables e below (T110.setTop (mkF m 201 #[.val (.long p0_0), .second, .val (.long p0_1), .second, iv p0_2, iv p0_3, iv p0_4, iv tla, iv ta0, iv ta1, .val (.long (if (p0_4 &&& (1 : Int32)) = (0 : Int32) then p0_0 else ((p0_0.toUInt64 >>> ((18 : Int32) &&& 0x3f).toInt64.toUInt64).toInt64))), .second, iv tlb, iv tb0, iv tb1, iv bla, iv ba0, iv ba1, .val (.long (if (p0_4 &&& (2 : Int32)) = (0 : Int32) then p0_1 else ((p0_1.toUInt64 >>> ((18 : Int32) &&& 0x3f).toInt64.toUInt64).toInt64))), .second, iv blb, iv bb0, iv bb1, iv (if (p0_4 &&& (4 : Int32)) = (0 : Int32) then p0_2 else p0_3), rv r_34, rv r_42, rv r_53, rv r_68, rv b86, .unset, .unset, .unset] [(.int p0_4)])) _
    refine XS.iconst X110.here hx rfl (hb hby at_201) ?_
    show Steps p.tables e below (T110.setTop (mkF m 202 #[.val (.long p0_0), .second, .val (.long p0_1), .second, iv p0_2, iv p0_3, iv p0_4, iv tla, iv ta0, iv ta1, .val (.long (if (p0_4 &&& (1 : Int32)) = (0 : Int32) then p0_0 else ((p0_0.toUInt64 >>> ((18 : Int32) &&& 0x3f).toInt64.toUInt64).toInt64))), .second, iv tlb, iv tb0, iv tb1, iv bla, iv ba0, iv ba1, .val (.long (if (p0_4 &&& (2 : Int32)) = (0 : Int32) then p0_1 else ((p0_1.toUInt64 >>> ((18 : Int32) &&& 0x3f).toInt64.toUInt64).toInt64))), .second, iv blb, iv bb0, iv bb1, iv (if (p0_4 &&& (4 : Int32)) = (0 : Int32) then p0_2 else p0_3), rv r_34, rv r_42, rv r_53, rv r_68, rv b86, .unset, .unset, .unset] [(.int (3 : Int32)), (.int p0_4)])) _
    refine XS.iushr X110.here hx rfl (hb hby at_202) rfl ?_
    show Steps p.tables e below (T110.setTop (mkF m 203 #[.val (.long p0_0), .second, .val (.long p0_1), .second, iv p0_2, iv p0_3, iv p0_4, iv tla, iv ta0, iv ta1, .val (.long (if (p0_4 &&& (1 : Int32)) = (0 : Int32) then p0_0 else ((p0_0.toUInt64 >>> ((18 : Int32) &&& 0x3f).toInt64.toUInt64).toInt64))), .second, iv tlb, iv tb0, iv tb1, iv bla, iv ba0, iv ba1, .val (.long (if (p0_4 &&& (2 : Int32)) = (0 : Int32) then p0_1 else ((p0_1.toUInt64 >>> ((18 : Int32) &&& 0x3f).toInt64.toUInt64).toInt64))), .second, iv blb, iv bb0, iv bb1, iv (if (p0_4 &&& (4 : Int32)) = (0 : Int32) then p0_2 else p0_3), rv r_34, rv r_42, rv r_53, rv r_68, rv b86, .unset, .unset, .unset] [(.int ((p0_4.toUInt32 >>> ((3 : Int32) &&& 31).toUInt32).toInt32))])) _
    refine XS.bipush X110.here hx rfl (hb hby at_203) ?_
    show Steps p.tables e below (T110.setTop (mkF m 205 #[.val (.long p0_0), .second, .val (.long p0_1), .second, iv p0_2, iv p0_3, iv p0_4, iv tla, iv ta0, iv ta1, .val (.long (if (p0_4 &&& (1 : Int32)) = (0 : Int32) then p0_0 else ((p0_0.toUInt64 >>> ((18 : Int32) &&& 0x3f).toInt64.toUInt64).toInt64))), .second, iv tlb, iv tb0, iv tb1, iv bla, iv ba0, iv ba1, .val (.long (if (p0_4 &&& (2 : Int32)) = (0 : Int32) then p0_1 else ((p0_1.toUInt64 >>> ((18 : Int32) &&& 0x3f).toInt64.toUInt64).toInt64))), .second, iv blb, iv bb0, iv bb1, iv (if (p0_4 &&& (4 : Int32)) = (0 : Int32) then p0_2 else p0_3), rv r_34, rv r_42, rv r_53, rv r_68, rv b86, .unset, .unset, .unset] [(.int (7 : Int32)), (.int ((p0_4.toUInt32 >>> ((3 : Int32) &&& 31).toUInt32).toInt32))])) _
    refine XS.iand X110.here hx rfl (hb hby at_205) rfl ?_
    show Steps p.tables e below (T110.setTop (mkF m 206 #[.val (.long p0_0), .second, .val (.long p0_1), .second, iv p0_2, iv p0_3, iv p0_4, iv tla, iv ta0, iv ta1, .val (.long (if (p0_4 &&& (1 : Int32)) = (0 : Int32) then p0_0 else ((p0_0.toUInt64 >>> ((18 : Int32) &&& 0x3f).toInt64.toUInt64).toInt64))), .second, iv tlb, iv tb0, iv tb1, iv bla, iv ba0, iv ba1, .val (.long (if (p0_4 &&& (2 : Int32)) = (0 : Int32) then p0_1 else ((p0_1.toUInt64 >>> ((18 : Int32) &&& 0x3f).toInt64.toUInt64).toInt64))), .second, iv blb, iv bb0, iv bb1, iv (if (p0_4 &&& (4 : Int32)) = (0 : Int32) then p0_2 else p0_3), rv r_34, rv r_42, rv r_53, rv r_68, rv b86, .unset, .unset, .unset] [(.int (((p0_4.toUInt32 >>> ((3 : Int32) &&& 31).toUInt32).toInt32) &&& (7 : Int32)))])) _
    refine XS.istore X110.here hx rfl (hb hby at_206) rfl (l' := #[.val (.long p0_0), .second, .val (.long p0_1), .second, iv p0_2, iv p0_3, iv p0_4, iv tla, iv ta0, iv ta1, .val (.long (if (p0_4 &&& (1 : Int32)) = (0 : Int32) then p0_0 else ((p0_0.toUInt64 >>> ((18 : Int32) &&& 0x3f).toInt64.toUInt64).toInt64))), .second, iv tlb, iv tb0, iv tb1, iv bla, iv ba0, iv ba1, .val (.long (if (p0_4 &&& (2 : Int32)) = (0 : Int32) then p0_1 else ((p0_1.toUInt64 >>> ((18 : Int32) &&& 0x3f).toInt64.toUInt64).toInt64))), .second, iv blb, iv bb0, iv bb1, iv (if (p0_4 &&& (4 : Int32)) = (0 : Int32) then p0_2 else p0_3), rv r_34, rv r_42, rv r_53, rv r_68, rv b86, iv (((p0_4.toUInt32 >>> ((3 : Int32) &&& 31).toUInt32).toInt32) &&& (7 : Int32)), .unset, .unset]) rfl ?_
    show Steps p.tables e below (T110.setTop (mkF m 208 #[.val (.long p0_0), .second, .val (.long p0_1), .second, iv p0_2, iv p0_3, iv p0_4, iv tla, iv ta0, iv ta1, .val (.long (if (p0_4 &&& (1 : Int32)) = (0 : Int32) then p0_0 else ((p0_0.toUInt64 >>> ((18 : Int32) &&& 0x3f).toInt64.toUInt64).toInt64))), .second, iv tlb, iv tb0, iv tb1, iv bla, iv ba0, iv ba1, .val (.long (if (p0_4 &&& (2 : Int32)) = (0 : Int32) then p0_1 else ((p0_1.toUInt64 >>> ((18 : Int32) &&& 0x3f).toInt64.toUInt64).toInt64))), .second, iv blb, iv bb0, iv bb1, iv (if (p0_4 &&& (4 : Int32)) = (0 : Int32) then p0_2 else p0_3), rv r_34, rv r_42, rv r_53, rv r_68, rv b86, iv (((p0_4.toUInt32 >>> ((3 : Int32) &&& 31).toUInt32).toInt32) &&& (7 : Int32)), .unset, .unset] [])) _
    refine XS.iload X110.here hx rfl (hb hby at_208) rfl ?_
    show Steps p.tables e below (T110.setTop (mkF m 210 #[.val (.long p0_0), .second, .val (.long p0_1), .second, iv p0_2, iv p0_3, iv p0_4, iv tla, iv ta0, iv ta1, .val (.long (if (p0_4 &&& (1 : Int32)) = (0 : Int32) then p0_0 else ((p0_0.toUInt64 >>> ((18 : Int32) &&& 0x3f).toInt64.toUInt64).toInt64))), .second, iv tlb, iv tb0, iv tb1, iv bla, iv ba0, iv ba1, .val (.long (if (p0_4 &&& (2 : Int32)) = (0 : Int32) then p0_1 else ((p0_1.toUInt64 >>> ((18 : Int32) &&& 0x3f).toInt64.toUInt64).toInt64))), .second, iv blb, iv bb0, iv bb1, iv (if (p0_4 &&& (4 : Int32)) = (0 : Int32) then p0_2 else p0_3), rv r_34, rv r_42, rv r_53, rv r_68, rv b86, iv (((p0_4.toUInt32 >>> ((3 : Int32) &&& 31).toUInt32).toInt32) &&& (7 : Int32)), .unset, .unset] [(.int (((p0_4.toUInt32 >>> ((3 : Int32) &&& 31).toUInt32).toInt32) &&& (7 : Int32)))])) _
    refine XS.iconst X110.here hx rfl (hb hby at_210) ?_
    exact k_
  by_cases hc211_116 : (((p0_4.toUInt32 >>> ((3 : Int32) &&& 31).toUInt32).toInt32) &&& (7 : Int32)) = (1 : Int32)
  · skip
    have f119 := (Nat.le_trans f111 K110q.1)
    have f120 := (A86.keep K110q)
    obtain ⟨cq118, kq118, q118a, q118b, q118c⟩ := isOf hZ rfl f120
    obtain ⟨_, _, ⟨T118, L118, k118, n118⟩, -, X118, ⟨Lc118, hQ118, l118, y118, z118⟩, st118⟩ := X110.virtualBack hx (y := MN12) (z := MN12) hown (mvT hZ wo58) (mvT hZ wo59) (notFace_of_selects (args := #[]) (mvT hZ wo61)) (mvT hZ wo61) (mvT hZ wo60) (by decide) (backOf (W := 0) (rmNull l Z a0 hw [] b86 (T110.heap) n0 f119 ) hZ wo62 wo44 (by decide) (by decide)) q118a q118c (g := (mkF m 324 #[.val (.long p0_0), .second, .val (.long p0_1), .second, iv p0_2, iv p0_3, iv p0_4, iv tla, iv ta0, iv ta1, .val (.long (if (p0_4 &&& (1 : Int32)) = (0 : Int32) then p0_0 else ((p0_0.toUInt64 >>> ((18 : Int32) &&& 0x3f).toInt64.toUInt64).toInt64))), .second, iv tlb, iv tb0, iv tb1, iv bla, iv ba0, iv ba1, .val (.long (if (p0_4 &&& (2 : Int32)) = (0 : Int32) then p0_1 else ((p0_1.toUInt64 >>> ((18 : Int32) &&& 0x3f).toInt64.toUInt64).toInt64))), .second, iv blb, iv bb0, iv bb1, iv (if (p0_4 &&& (4 : Int32)) = (0 : Int32) then p0_2 else p0_3), rv r_34, rv r_42, rv r_53, rv r_68, rv b86, iv (((p0_4.toUInt32 >>> ((3 : Int32) &&& 31).toUInt32).toInt32) &&& (7 : Int32)), .val .null, iv (0 : Int32)] [.null, (.ref b86)])) rfl (by rw [hml]; rfl) (Steps.refl _) (argsL := [.null]) (rest := []) (lenOf pd_5 rfl) rfl (by show 2 * 0 + _ ≤ _; exact Nat.le_of_eq rfl) (hb hby at_324) (fun _ _ => ⟨rfl, rfl, (by decide : 25 + 0 ≤ _), (by decide : 51 + 0 ≤ _)⟩)
    dsimp only [Pt.U, Pt.locs, Pt.cells, Pt.slots] at X118 l118 y118 z118 st118 hQ118
    rw [l118, y118, z118] at X118
    obtain ⟨rfl, N118q, K118q⟩ := hQ118
    have N121 := Fr.app N112 N118q
    have f122 := (Nat.le_trans (Nat.le_trans (Nat.le_refl T68.heap.size) E86.1) K110q.1)
    obtain ⟨fs, hr, hrun, hended, -, hW1, hW2, hW3⟩ := X118.leaveW S68 (by rw [K118q]; exact f122) (v := some (.int (1 : Int32))) (fun h => by rw [Bd.returns] at h; cases h)
    refine ⟨_, _, pre117 _ ?_, hrun, hended, _, _, rfl, ?_, hW1, hW2, hW3.mono (by decide) (by decide)⟩
    · show Steps p.tables e below (T110.setTop (mkF m 211 #[.val (.long p0_0), .second, .val (.long p0_1), .second, iv p0_2, iv p0_3, iv p0_4, iv tla, iv ta0, iv ta1, .val (.long (if (p0_4 &&& (1 : Int32)) = (0 : Int32) then p0_0 else ((p0_0.toUInt64 >>> ((18 : Int32) &&& 0x3f).toInt64.toUInt64).toInt64))), .second, iv tlb, iv tb0, iv tb1, iv bla, iv ba0, iv ba1, .val (.long (if (p0_4 &&& (2 : Int32)) = (0 : Int32) then p0_1 else ((p0_1.toUInt64 >>> ((18 : Int32) &&& 0x3f).toInt64.toUInt64).toInt64))), .second, iv blb, iv bb0, iv bb1, iv (if (p0_4 &&& (4 : Int32)) = (0 : Int32) then p0_2 else p0_3), rv r_34, rv r_42, rv r_53, rv r_68, rv b86, iv (((p0_4.toUInt32 >>> ((3 : Int32) &&& 31).toUInt32).toInt32) &&& (7 : Int32)), .unset, .unset] [(.int (1 : Int32)), (.int (((p0_4.toUInt32 >>> ((3 : Int32) &&& 31).toUInt32).toInt32) &&& (7 : Int32)))])) _
      refine XS.icmpNo X110.here hx rfl (hb hby at_211) rfl (teq hc211_116).2 ?_
      show Steps p.tables e below (T110.setTop (mkF m 214 #[.val (.long p0_0), .second, .val (.long p0_1), .second, iv p0_2, iv p0_3, iv p0_4, iv tla, iv ta0, iv ta1, .val (.long (if (p0_4 &&& (1 : Int32)) = (0 : Int32) then p0_0 else ((p0_0.toUInt64 >>> ((18 : Int32) &&& 0x3f).toInt64.toUInt64).toInt64))), .second, iv tlb, iv tb0, iv tb1, iv bla, iv ba0, iv ba1, .val (.long (if (p0_4 &&& (2 : Int32)) = (0 : Int32) then p0_1 else ((p0_1.toUInt64 >>> ((18 : Int32) &&& 0x3f).toInt64.toUInt64).toInt64))), .second, iv blb, iv bb0, iv bb1, iv (if (p0_4 &&& (4 : Int32)) = (0 : Int32) then p0_2 else p0_3), rv r_34, rv r_42, rv r_53, rv r_68, rv b86, iv (((p0_4.toUInt32 >>> ((3 : Int32) &&& 31).toUInt32).toInt32) &&& (7 : Int32)), .unset, .unset] [])) _
      refine XS.aconstNull X110.here hx rfl (hb hby at_214) ?_
      show Steps p.tables e below (T110.setTop (mkF m 215 #[.val (.long p0_0), .second, .val (.long p0_1), .second, iv p0_2, iv p0_3, iv p0_4, iv tla, iv ta0, iv ta1, .val (.long (if (p0_4 &&& (1 : Int32)) = (0 : Int32) then p0_0 else ((p0_0.toUInt64 >>> ((18 : Int32) &&& 0x3f).toInt64.toUInt64).toInt64))), .second, iv tlb, iv tb0, iv tb1, iv bla, iv ba0, iv ba1, .val (.long (if (p0_4 &&& (2 : Int32)) = (0 : Int32) then p0_1 else ((p0_1.toUInt64 >>> ((18 : Int32) &&& 0x3f).toInt64.toUInt64).toInt64))), .second, iv blb, iv bb0, iv bb1, iv (if (p0_4 &&& (4 : Int32)) = (0 : Int32) then p0_2 else p0_3), rv r_34, rv r_42, rv r_53, rv r_68, rv b86, iv (((p0_4.toUInt32 >>> ((3 : Int32) &&& 31).toUInt32).toInt32) &&& (7 : Int32)), .unset, .unset] [.null])) _
      refine XS.astore X110.here hx rfl (hb hby at_215) rfl rfl (l' := #[.val (.long p0_0), .second, .val (.long p0_1), .second, iv p0_2, iv p0_3, iv p0_4, iv tla, iv ta0, iv ta1, .val (.long (if (p0_4 &&& (1 : Int32)) = (0 : Int32) then p0_0 else ((p0_0.toUInt64 >>> ((18 : Int32) &&& 0x3f).toInt64.toUInt64).toInt64))), .second, iv tlb, iv tb0, iv tb1, iv bla, iv ba0, iv ba1, .val (.long (if (p0_4 &&& (2 : Int32)) = (0 : Int32) then p0_1 else ((p0_1.toUInt64 >>> ((18 : Int32) &&& 0x3f).toInt64.toUInt64).toInt64))), .second, iv blb, iv bb0, iv bb1, iv (if (p0_4 &&& (4 : Int32)) = (0 : Int32) then p0_2 else p0_3), rv r_34, rv r_42, rv r_53, rv r_68, rv b86, iv (((p0_4.toUInt32 >>> ((3 : Int32) &&& 31).toUInt32).toInt32) &&& (7 : Int32)), .val .null, .unset]) rfl ?_
      show Steps p.tables e below (T110.setTop (mkF m 217 #[.val (.long p0_0), .second, .val (.long p0_1), .second, iv p0_2, iv p0_3, iv p0_4, iv tla, iv ta0, iv ta1, .val (.long (if (p0_4 &&& (1 : Int32)) = (0 : Int32) then p0_0 else ((p0_0.toUInt64 >>> ((18 : Int32) &&& 0x3f).toInt64.toUInt64).toInt64))), .second, iv tlb, iv tb0, iv tb1, iv bla, iv ba0, iv ba1, .val (.long (if (p0_4 &&& (2 : Int32)) = (0 : Int32) then p0_1 else ((p0_1.toUInt64 >>> ((18 : Int32) &&& 0x3f).toInt64.toUInt64).toInt64))), .second, iv blb, iv bb0, iv bb1, iv (if (p0_4 &&& (4 : Int32)) = (0 : Int32) then p0_2 else p0_3), rv r_34, rv r_42, rv r_53, rv r_68, rv b86, iv (((p0_4.toUInt32 >>> ((3 : Int32) &&& 31).toUInt32).toInt32) &&& (7 : Int32)), .val .null, .unset] [])) _
      refine XS.iconst X110.here hx rfl (hb hby at_217) ?_
      show Steps p.tables e below (T110.setTop (mkF m 218 #[.val (.long p0_0), .second, .val (.long p0_1), .second, iv p0_2, iv p0_3, iv p0_4, iv tla, iv ta0, iv ta1, .val (.long (if (p0_4 &&& (1 : Int32)) = (0 : Int32) then p0_0 else ((p0_0.toUInt64 >>> ((18 : Int32) &&& 0x3f).toInt64.toUInt64).toInt64))), .second, iv tlb, iv tb0, iv tb1, iv bla, iv ba0, iv ba1, .val (.long (if (p0_4 &&& (2 : Int32)) = (0 : Int32) then p0_1 else ((p0_1.toUInt64 >>> ((18 : Int32) &&& 0x3f).toInt64.toUInt64).toInt64))), .second, iv blb, iv bb0, iv bb1, iv (if (p0_4 &&& (4 : Int32)) = (0 : Int32) then p0_2 else p0_3), rv r_34, rv r_42, rv r_53, rv r_68, rv b86, iv (((p0_4.toUInt32 >>> ((3 : Int32) &&& 31).toUInt32).toInt32) &&& (7 : Int32)), .val .null, .unset] [(.int (0 : Int32))])) _
      refine XS.istore X110.here hx rfl (hb hby at_218) rfl (l' := #[.val (.long p0_0), .second, .val (.long p0_1), .second, iv p0_2, iv p0_3, iv p0_4, iv tla, iv ta0, iv ta1, .val (.long (if (p0_4 &&& (1 : Int32)) = (0 : Int32) then p0_0 else ((p0_0.toUInt64 >>> ((18 : Int32) &&& 0x3f).toInt64.toUInt64).toInt64))), .second, iv tlb, iv tb0, iv tb1, iv bla, iv ba0, iv ba1, .val (.long (if (p0_4 &&& (2 : Int32)) = (0 : Int32) then p0_1 else ((p0_1.toUInt64 >>> ((18 : Int32) &&& 0x3f).toInt64.toUInt64).toInt64))), .second, iv blb, iv bb0, iv bb1, iv (if (p0_4 &&& (4 : Int32)) = (0 : Int32) then p0_2 else p0_3), rv r_34, rv r_42, rv r_53, rv r_68, rv b86, iv (((p0_4.toUInt32 >>> ((3 : Int32) &&& 31).toUInt32).toInt32) &&& (7 : Int32)), .val .null, iv (0 : Int32)]) rfl ?_
      show Steps p.tables e below (T110.setTop (mkF m 220 #[.val (.long p0_0), .second, .val (.long p0_1), .second, iv p0_2, iv p0_3, iv p0_4, iv tla, iv ta0, iv ta1, .val (.long (if (p0_4 &&& (1 : Int32)) = (0 : Int32) then p0_0 else ((p0_0.toUInt64 >>> ((18 : Int32) &&& 0x3f).toInt64.toUInt64).toInt64))), .second, iv tlb, iv tb0, iv tb1, iv bla, iv ba0, iv ba1, .val (.long (if (p0_4 &&& (2 : Int32)) = (0 : Int32) then p0_1 else ((p0_1.toUInt64 >>> ((18 : Int32) &&& 0x3f).toInt64.toUInt64).toInt64))), .second, iv blb, iv bb0, iv bb1, iv (if (p0_4 &&& (4 : Int32)) = (0 : Int32) then p0_2 else p0_3), rv r_34, rv r_42, rv r_53, rv r_68, rv b86, iv (((p0_4.toUInt32 >>> ((3 : Int32) &&& 31).toUInt32).toInt32) &&& (7 : Int32)), .val .null, iv (0 : Int32)] [])) _
      refine XS.goto X110.here hx rfl (pc0 := 220) (pc' := 320) rfl (hb hby at_220) (by decide) (by decide) ?_
      show Steps p.tables e below (T110.setTop (mkF m 320 #[.val (.long p0_0), .second, .val (.long p0_1), .second, iv p0_2, iv p0_3, iv p0_4, iv tla, iv ta0, iv ta1, .val (.long (if (p0_4 &&& (1 : Int32)) = (0 : Int32) then p0_0 else ((p0_0.toUInt64 >>> ((18 : Int32) &&& 0x3f).toInt64.toUInt64).toInt64))), .second, iv tlb, iv tb0, iv tb1, iv bla, iv ba0, iv ba1, .val (.long (if (p0_4 &&& (2 : Int32)) = (0 : Int32) then p0_1 else ((p0_1.toUInt64 >>> ((18 : Int32) &&& 0x3f).toInt64.toUInt64).toInt64))), .second, iv blb, iv bb0, iv bb1, iv (if (p0_4 &&& (4 : Int32)) = (0 : Int32) then p0_2 else p0_3), rv r_34, rv r_42, rv r_53, rv r_68, rv b86, iv (((p0_4.toUInt32 >>> ((3 : Int32) &&& 31).toUInt32).toInt32) &&& (7 : Int32)), .val .null, iv (0 : Int32)] [])) _
      refine XS.aload X110.here hx rfl (hb hby at_320) rfl rfl ?_
      show Steps p.tables e below (T110.setTop (mkF m 322 #[.val (.long p0_0), .second, .val (.long p0_1), .second, iv p0_2, iv p0_3, iv p0_4, iv tla, iv ta0, iv ta1, .val (.long (if (p0_4 &&& (1 : Int32)) = (0 : Int32) then p0_0 else ((p0_0.toUInt64 >>> ((18 : Int32) &&& 0x3f).toInt64.toUInt64).toInt64))), .second, iv tlb, iv tb0, iv tb1, iv bla, iv ba0, iv ba1, .val (.long (if (p0_4 &&& (2 : Int32)) = (0 : Int32) then p0_1 else ((p0_1.toUInt64 >>> ((18 : Int32) &&& 0x3f).toInt64.toUInt64).toInt64))), .second, iv blb, iv bb0, iv bb1, iv (if (p0_4 &&& (4 : Int32)) = (0 : Int32) then p0_2 else p0_3), rv r_34, rv r_42, rv r_53, rv r_68, rv b86, iv (((p0_4.toUInt32 >>> ((3 : Int32) &&& 31).toUInt32).toInt32) &&& (7 : Int32)), .val .null, iv (0 : Int32)] [(.ref b86)])) _
      refine XS.aload X110.here hx rfl (hb hby at_322) rfl rfl ?_
      show Steps p.tables e below (T110.setTop (mkF m 324 #[.val (.long p0_0), .second, .val (.long p0_1), .second, iv p0_2, iv p0_3, iv p0_4, iv tla, iv ta0, iv ta1, .val (.long (if (p0_4 &&& (1 : Int32)) = (0 : Int32) then p0_0 else ((p0_0.toUInt64 >>> ((18 : Int32) &&& 0x3f).toInt64.toUInt64).toInt64))), .second, iv tlb, iv tb0, iv tb1, iv bla, iv ba0, iv ba1, .val (.long (if (p0_4 &&& (2 : Int32)) = (0 : Int32) then p0_1 else ((p0_1.toUInt64 >>> ((18 : Int32) &&& 0x3f).toInt64.toUInt64).toInt64))), .second, iv blb, iv bb0, iv bb1, iv (if (p0_4 &&& (4 : Int32)) = (0 : Int32) then p0_2 else p0_3), rv r_34, rv r_42, rv r_53, rv r_68, rv b86, iv (((p0_4.toUInt32 >>> ((3 : Int32) &&& 31).toUInt32).toInt32) &&& (7 : Int32)), .val .null, iv (0 : Int32)] [.null, (.ref b86)])) _
      refine st118.trans ?_
      show Steps p.tables e below (T118.setTop (mkF m 327 #[.val (.long p0_0), .second, .val (.long p0_1), .second, iv p0_2, iv p0_3, iv p0_4, iv tla, iv ta0, iv ta1, .val (.long (if (p0_4 &&& (1 : Int32)) = (0 : Int32) then p0_0 else ((p0_0.toUInt64 >>> ((18 : Int32) &&& 0x3f).toInt64.toUInt64).toInt64))), .second, iv tlb, iv tb0, iv tb1, iv bla, iv ba0, iv ba1, .val (.long (if (p0_4 &&& (2 : Int32)) = (0 : Int32) then p0_1 else ((p0_1.toUInt64 >>> ((18 : Int32) &&& 0x3f).toInt64.toUInt64).toInt64))), .second, iv blb, iv bb0, iv bb1, iv (if (p0_4 &&& (4 : Int32)) = (0 : Int32) then p0_2 else p0_3), rv r_34, rv r_42, rv r_53, rv r_68, rv b86, iv (((p0_4.toUInt32 >>> ((3 : Int32) &&& 31).toUInt32).toInt32) &&& (7 : Int32)), .val .null, iv (0 : Int32)] [(.int (0 : Int32))])) _
      refine XS.iload X118.here hx rfl (hb hby at_327) rfl ?_
      show Steps p.tables e below (T118.setTop (mkF m 329 #[.val (.long p0_0), .second, .val (.long p0_1), .second, iv p0_2, iv p0_3, iv p0_4, iv tla, iv ta0, iv ta1, .val (.long (if (p0_4 &&& (1 : Int32)) = (0 : Int32) then p0_0 else ((p0_0.toUInt64 >>> ((18 : Int32) &&& 0x3f).toInt64.toUInt64).toInt64))), .second, iv tlb, iv tb0, iv tb1, iv bla, iv ba0, iv ba1, .val (.long (if (p0_4 &&& (2 : Int32)) = (0 : Int32) then p0_1 else ((p0_1.toUInt64 >>> ((18 : Int32) &&& 0x3f).toInt64.toUInt64).toInt64))), .second, iv blb, iv bb0, iv bb1, iv (if (p0_4 &&& (4 : Int32)) = (0 : Int32) then p0_2 else p0_3), rv r_34, rv r_42, rv r_53, rv r_68, rv b86, iv (((p0_4.toUInt32 >>> ((3 : Int32) &&& 31).toUInt32).toInt32) &&& (7 : Int32)), .val .null, iv (0 : Int32)] [(.int (0 : Int32)), (.int (0 : Int32))])) _
      refine XS.icmpNo X118.here hx rfl (hb hby at_329) rfl (teq (by decide : (0 : Int32) = (0 : Int32))).2 ?_
      show Steps p.tables e below (T118.setTop (mkF m 332 #[.val (.long p0_0), .second, .val (.long p0_1), .second, iv p0_2, iv p0_3, iv p0_4, iv tla, iv ta0, iv ta1, .val (.long (if (p0_4 &&& (1 : Int32)) = (0 : Int32) then p0_0 else ((p0_0.toUInt64 >>> ((18 : Int32) &&& 0x3f).toInt64.toUInt64).toInt64))), .second, iv tlb, iv tb0, iv tb1, iv bla, iv ba0, iv ba1, .val (.long (if (p0_4 &&& (2 : Int32)) = (0 : Int32) then p0_1 else ((p0_1.toUInt64 >>> ((18 : Int32) &&& 0x3f).toInt64.toUInt64).toInt64))), .second, iv blb, iv bb0, iv bb1, iv (if (p0_4 &&& (4 : Int32)) = (0 : Int32) then p0_2 else p0_3), rv r_34, rv r_42, rv r_53, rv r_68, rv b86, iv (((p0_4.toUInt32 >>> ((3 : Int32) &&& 31).toUInt32).toInt32) &&& (7 : Int32)), .val .null, iv (0 : Int32)] [])) _
      refine XS.iconst X118.here hx rfl (hb hby at_332) ?_
      show Steps p.tables e below (T118.setTop (mkF m 333 #[.val (.long p0_0), .second, .val (.long p0_1), .second, iv p0_2, iv p0_3, iv p0_4, iv tla, iv ta0, iv ta1, .val (.long (if (p0_4 &&& (1 : Int32)) = (0 : Int32) then p0_0 else ((p0_0.toUInt64 >>> ((18 : Int32) &&& 0x3f).toInt64.toUInt64).toInt64))), .second, iv tlb, iv tb0, iv tb1, iv bla, iv ba0, iv ba1, .val (.long (if (p0_4 &&& (2 : Int32)) = (0 : Int32) then p0_1 else ((p0_1.toUInt64 >>> ((18 : Int32) &&& 0x3f).toInt64.toUInt64).toInt64))), .second, iv blb, iv bb0, iv bb1, iv (if (p0_4 &&& (4 : Int32)) = (0 : Int32) then p0_2 else p0_3), rv r_34, rv r_42, rv r_53, rv r_68, rv b86, iv (((p0_4.toUInt32 >>> ((3 : Int32) &&& 31).toUInt32).toInt32) &&& (7 : Int32)), .val .null, iv (0 : Int32)] [(.int (1 : Int32))])) _
      refine XS.goto X118.here hx rfl (pc0 := 333) (pc' := 337) rfl (hb hby at_333) (by decide) (by decide) ?_
      show Steps p.tables e below (T118.setTop (mkF m 337 #[.val (.long p0_0), .second, .val (.long p0_1), .second, iv p0_2, iv p0_3, iv p0_4, iv tla, iv ta0, iv ta1, .val (.long (if (p0_4 &&& (1 : Int32)) = (0 : Int32) then p0_0 else ((p0_0.toUInt64 >>> ((18 : Int32) &&& 0x3f).toInt64.toUInt64).toInt64))), .second, iv tlb, iv tb0, iv tb1, iv bla, iv ba0, iv ba1, .val (.long (if (p0_4 &&& (2 : Int32)) = (0 : Int32) then p0_1 else ((p0_1.toUInt64 >>> ((18 : Int32) &&& 0x3f).toInt64.toUInt64).toInt64))), .second, iv blb, iv bb0, iv bb1, iv (if (p0_4 &&& (4 : Int32)) = (0 : Int32) then p0_2 else p0_3), rv r_34, rv r_42, rv r_53, rv r_68, rv b86, iv (((p0_4.toUInt32 >>> ((3 : Int32) &&& 31).toUInt32).toInt32) &&& (7 : Int32)), .val .null, iv (0 : Int32)] [(.int (1 : Int32))])) _
      exact retN X118 hx (t := .boolean) Bd.returns (by simp) (hb hby at_337) hr
    · show Q_rm0 Z _ _ _ _ _ _ h0 n0 _ T118.heap _
      rw [K118q]
      exact ⟨rfl, N121, (K115)⟩
  · skip
    have pre124 : ∀ t, Steps p.tables e below (T110.setTop (mkF m 226 #[.val (.long p0_0), .second, .val (.long p0_1), .second, iv p0_2, iv p0_3, iv p0_4, iv tla, iv ta0, iv ta1, .val (.long (if (p0_4 &&& (1 : Int32)) = (0 : Int32) then p0_0 else ((p0_0.toUInt64 >>> ((18 : Int32) &&& 0x3f).toInt64.toUInt64).toInt64))), .second, iv tlb, iv tb0, iv tb1, iv bla, iv ba0, iv ba1, .val (.long (if (p0_4 &&& (2 : Int32)) = (0 : Int32) then p0_1 else ((p0_1.toUInt64 >>> ((18 : Int32) &&& 0x3f).toInt64.toUInt64).toInt64))), .second, iv blb, iv bb0, iv bb1, iv (if (p0_4 &&& (4 : Int32)) = (0 : Int32) then p0_2 else p0_3), rv r_34, rv r_42, rv r_53, rv r_68, rv b86, iv (((p0_4.toUInt32 >>> ((3 : Int32) &&& 31).toUInt32).toInt32) &&& (7 : Int32)), .unset, .unset] [(.int (2 : Int32)), (.int (((p0_4.toUInt32 >>> ((3 : Int32) &&& 31).toUInt32).toInt32) &&& (7 : Int32)))])) t → Steps p.tables e below (s₁.setTop (entryFrame m #[(.long p0_0), (.long p0_1), (.int p0_2), (.int p0_3), (.int p0_4)] maxLocals)) t := by
      intro t_ k_
      refine pre117 _ ?_
      show Steps p.tables e below (T110.setTop (mkF m 211 #[.val (.long p0_0), .second, .val (.long p0_1), .second, iv p0_2, iv p0_3, iv p0_4, iv tla, iv ta0, iv ta1, .val (.long (if (p0_4 &&& (1 : Int32)) = (0 : Int32) then p0_0 else ((p0_0.toUInt64 >>> ((18 : Int32) &&& 0x3f).toInt64.toUInt64).toInt64))), .second, iv tlb, iv tb0, iv tb1, iv bla, iv ba0, iv ba1, .val (.long (if (p0_4 &&& (2 : Int32)) = (0 : Int32) then p0_1 else ((p0_1.toUInt64 >>> ((18 : Int32) &&& 0x3f).toInt64.toUInt64).toInt64))), .second, iv blb, iv bb0, iv bb1, iv (if (p0_4 &&& (4 : Int32)) = (0 : Int32) then p0_2 else p0_3), rv r_34, rv r_42, rv r_53, rv r_68, rv b86, iv (((p0_4.toUInt32 >>> ((3 : Int32) &&& 31).toUInt32).toInt32) &&& (7 : Int32)), .unset, .unset] [(.int (1 : Int32)), (.int (((p0_4.toUInt32 >>> ((3 : Int32) &&& 31).toUInt32).toInt32) &&& (7 : Int32)))])) _
      refine XS.icmpYes X110.here hx rfl (pc0 := 211) (pc' := 223) rfl (hb hby at_211) rfl (feq hc211_116).2 (by decide) (by decide) ?_
      show Steps p.tables e below (T110.setTop (mkF m 223 #[.val (.long p0_0), .second, .val (.long p0_1), .second, iv p0_2, iv p0_3, iv p0_4, iv tla, iv ta0, iv ta1, .val (.long (if (p0_4 &&& (1 : Int32)) = (0 : Int32) then p0_0 else ((p0_0.toUInt64 >>> ((18 : Int32) &&& 0x3f).toInt64.toUInt64).toInt64))), .second, iv tlb, iv tb0, iv tb1, iv bla, iv ba0, iv ba1, .val (.long (if (p0_4 &&& (2 : Int32)) = (0 : Int32) then p0_1 else ((p0_1.toUInt64 >>> ((18 : Int32) &&& 0x3f).toInt64.toUInt64).toInt64))), .second, iv blb, iv bb0, iv bb1, iv (if (p0_4 &&& (4 : Int32)) = (0 : Int32) then p0_2 else p0_3), rv r_34, rv r_42, rv r_53, rv r_68, rv b86, iv (((p0_4.toUInt32 >>> ((3 : Int32) &&& 31).toUInt32).toInt32) &&& (7 : Int32)), .unset, .unset] [])) _
      refine XS.iload X110.here hx rfl (hb hby at_223) rfl ?_
      show Steps p.tables e below (T110.setTop (mkF m 225 #[.val (.long p0_0), .second, .val (.long p0_1), .second, iv p0_2, iv p0_3, iv p0_4, iv tla, iv ta0, iv ta1, .val (.long (if (p0_4 &&& (1 : Int32)) = (0 : Int32) then p0_0 else ((p0_0.toUInt64 >>> ((18 : Int32) &&& 0x3f).toInt64.toUInt64).toInt64))), .second, iv tlb, iv tb0, iv tb1, iv bla, iv ba0, iv ba1, .val (.long (if (p0_4 &&& (2 : Int32)) = (0 : Int32) then p0_1 else ((p0_1.toUInt64 >>> ((18 : Int32) &&& 0x3f).toInt64.toUInt64).toInt64))), .second, iv blb, iv bb0, iv bb1, iv (if (p0_4 &&& (4 : Int32)) = (0 : Int32) then p0_2 else p0_3), rv r_34, rv r_42, rv r_53, rv r_68, rv b86, iv (((p0_4.toUInt32 >>> ((3 : Int32) &&& 31).toUInt32).toInt32) &&& (7 : Int32)), .unset, .unset] [(.int (((p0_4.toUInt32 >>> ((3 : Int32) &&& 31).toUInt32).toInt32) &&& (7 : Int32)))])) _
      refine XS.iconst X110.here hx rfl (hb hby at_225) ?_
      exact k_
    by_cases hc226_123 : (((p0_4.toUInt32 >>> ((3 : Int32) &&& 31).toUInt32).toInt32) &&& (7 : Int32)) = (2 : Int32)
    · skip
      have f125 := ((f87.ext E86).keep K110q)
      have f127 := (Nat.le_trans f111 K110q.1)
      have f128 := (A86.keep K110q)
      obtain ⟨cq126, kq126, q126a, q126b, q126c⟩ := isOf hZ rfl f128
      obtain ⟨_, _, ⟨T126, L126, k126, n126⟩, -, X126, ⟨Lc126, hQ126, l126, y126, z126⟩, st126⟩ := X110.virtualBack hx (y := MN12) (z := MN12) hown (mvT hZ wo58) (mvT hZ wo59) (notFace_of_selects (args := #[]) (mvT hZ wo61)) (mvT hZ wo61) (mvT hZ wo60) (by decide) (backOf (W := 0) (rmStr l Z a0 hw [] b86 r_34 (T110.heap) n0 f127 f125) hZ wo62 wo44 (by decide) (by decide)) q126a q126c (g := (mkF m 324 #[.val (.long p0_0), .second, .val (.long p0_1), .second, iv p0_2, iv p0_3, iv p0_4, iv tla, iv ta0, iv ta1, .val (.long (if (p0_4 &&& (1 : Int32)) = (0 : Int32) then p0_0 else ((p0_0.toUInt64 >>> ((18 : Int32) &&& 0x3f).toInt64.toUInt64).toInt64))), .second, iv tlb, iv tb0, iv tb1, iv bla, iv ba0, iv ba1, .val (.long (if (p0_4 &&& (2 : Int32)) = (0 : Int32) then p0_1 else ((p0_1.toUInt64 >>> ((18 : Int32) &&& 0x3f).toInt64.toUInt64).toInt64))), .second, iv blb, iv bb0, iv bb1, iv (if (p0_4 &&& (4 : Int32)) = (0 : Int32) then p0_2 else p0_3), rv r_34, rv r_42, rv r_53, rv r_68, rv b86, iv (((p0_4.toUInt32 >>> ((3 : Int32) &&& 31).toUInt32).toInt32) &&& (7 : Int32)), rv r_34, iv (0 : Int32)] [(.ref r_34), (.ref b86)])) rfl (by rw [hml]; rfl) (Steps.refl _) (argsL := [(.ref r_34)]) (rest := []) (lenOf pd_5 rfl) rfl (by show 2 * 0 + _ ≤ _; exact Nat.le_of_eq rfl) (hb hby at_324) (fun _ _ => ⟨rfl, rfl, (by decide : 25 + 0 ≤ _), (by decide : 51 + 0 ≤ _)⟩)
      dsimp only [Pt.U, Pt.locs, Pt.cells, Pt.slots] at X126 l126 y126 z126 st126 hQ126
      rw [l126, y126, z126] at X126
      obtain ⟨rfl, N126q, K126q⟩ := hQ126
      have N129 := Fr.app N112 N126q
      have f130 := (Nat.le_trans (Nat.le_trans (Nat.le_refl T68.heap.size) E86.1) K110q.1)
      obtain ⟨fs, hr, hrun, hended, -, hW1, hW2, hW3⟩ := X126.leaveW S68 (by rw [K126q]; exact f130) (v := some (.int (1 : Int32))) (fun h => by rw [Bd.returns] at h; cases h)
      refine ⟨_, _, pre124 _ ?_, hrun, hended, _, _, rfl, ?_, hW1, hW2, hW3.mono (by decide) (by decide)⟩
      · show Steps p.tables e below (T110.setTop (mkF m 226 #[.val (.long p0_0), .second, .val (.long p0_1), .second, iv p0_2, iv p0_3, iv p0_4, iv tla, iv ta0, iv ta1, .val (.long (if (p0_4 &&& (1 : Int32)) = (0 : Int32) then p0_0 else ((p0_0.toUInt64 >>> ((18 : Int32) &&& 0x3f).toInt64.toUInt64).toInt64))), .second, iv tlb, iv tb0, iv tb1, iv bla, iv ba0, iv ba1, .val (.long (if (p0_4 &&& (2 : Int32)) = (0 : Int32) then p0_1 else ((p0_1.toUInt64 >>> ((18 : Int32) &&& 0x3f).toInt64.toUInt64).toInt64))), .second, iv blb, iv bb0, iv bb1, iv (if (p0_4 &&& (4 : Int32)) = (0 : Int32) then p0_2 else p0_3), rv r_34, rv r_42, rv r_53, rv r_68, rv b86, iv (((p0_4.toUInt32 >>> ((3 : Int32) &&& 31).toUInt32).toInt32) &&& (7 : Int32)), .unset, .unset] [(.int (2 : Int32)), (.int (((p0_4.toUInt32 >>> ((3 : Int32) &&& 31).toUInt32).toInt32) &&& (7 : Int32)))])) _
        refine XS.icmpNo X110.here hx rfl (hb hby at_226) rfl (teq hc226_123).2 ?_
        show Steps p.tables e below (T110.setTop (mkF m 229 #[.val (.long p0_0), .second, .val (.long p0_1), .second, iv p0_2, iv p0_3, iv p0_4, iv tla, iv ta0, iv ta1, .val (.long (if (p0_4 &&& (1 : Int32)) = (0 : Int32) then p0_0 else ((p0_0.toUInt64 >>> ((18 : Int32) &&& 0x3f).toInt64.toUInt64).toInt64))), .second, iv tlb, iv tb0, iv tb1, iv bla, iv ba0, iv ba1, .val (.long (if (p0_4 &&& (2 : Int32)) = (0 : Int32) then p0_1 else ((p0_1.toUInt64 >>> ((18 : Int32) &&& 0x3f).toInt64.toUInt64).toInt64))), .second, iv blb, iv bb0, iv bb1, iv (if (p0_4 &&& (4 : Int32)) = (0 : Int32) then p0_2 else p0_3), rv r_34, rv r_42, rv r_53, rv r_68, rv b86, iv (((p0_4.toUInt32 >>> ((3 : Int32) &&& 31).toUInt32).toInt32) &&& (7 : Int32)), .unset, .unset] [])) _
        refine XS.aload X110.here hx rfl (hb hby at_229) rfl rfl ?_
        show Steps p.tables e below (T110.setTop (mkF m 231 #[.val (.long p0_0), .second, .val (.long p0_1), .second, iv p0_2, iv p0_3, iv p0_4, iv tla, iv ta0, iv ta1, .val (.long (if (p0_4 &&& (1 : Int32)) = (0 : Int32) then p0_0 else ((p0_0.toUInt64 >>> ((18 : Int32) &&& 0x3f).toInt64.toUInt64).toInt64))), .second, iv tlb, iv tb0, iv tb1, iv bla, iv ba0, iv ba1, .val (.long (if (p0_4 &&& (2 : Int32)) = (0 : Int32) then p0_1 else ((p0_1.toUInt64 >>> ((18 : Int32) &&& 0x3f).toInt64.toUInt64).toInt64))), .second, iv blb, iv bb0, iv bb1, iv (if (p0_4 &&& (4 : Int32)) = (0 : Int32) then p0_2 else p0_3), rv r_34, rv r_42, rv r_53, rv r_68, rv b86, iv (((p0_4.toUInt32 >>> ((3 : Int32) &&& 31).toUInt32).toInt32) &&& (7 : Int32)), .unset, .unset] [(.ref r_34)])) _
        refine XS.astore X110.here hx rfl (hb hby at_231) rfl rfl (l' := #[.val (.long p0_0), .second, .val (.long p0_1), .second, iv p0_2, iv p0_3, iv p0_4, iv tla, iv ta0, iv ta1, .val (.long (if (p0_4 &&& (1 : Int32)) = (0 : Int32) then p0_0 else ((p0_0.toUInt64 >>> ((18 : Int32) &&& 0x3f).toInt64.toUInt64).toInt64))), .second, iv tlb, iv tb0, iv tb1, iv bla, iv ba0, iv ba1, .val (.long (if (p0_4 &&& (2 : Int32)) = (0 : Int32) then p0_1 else ((p0_1.toUInt64 >>> ((18 : Int32) &&& 0x3f).toInt64.toUInt64).toInt64))), .second, iv blb, iv bb0, iv bb1, iv (if (p0_4 &&& (4 : Int32)) = (0 : Int32) then p0_2 else p0_3), rv r_34, rv r_42, rv r_53, rv r_68, rv b86, iv (((p0_4.toUInt32 >>> ((3 : Int32) &&& 31).toUInt32).toInt32) &&& (7 : Int32)), rv r_34, .unset]) rfl ?_
        show Steps p.tables e below (T110.setTop (mkF m 233 #[.val (.long p0_0), .second, .val (.long p0_1), .second, iv p0_2, iv p0_3, iv p0_4, iv tla, iv ta0, iv ta1, .val (.long (if (p0_4 &&& (1 : Int32)) = (0 : Int32) then p0_0 else ((p0_0.toUInt64 >>> ((18 : Int32) &&& 0x3f).toInt64.toUInt64).toInt64))), .second, iv tlb, iv tb0, iv tb1, iv bla, iv ba0, iv ba1, .val (.long (if (p0_4 &&& (2 : Int32)) = (0 : Int32) then p0_1 else ((p0_1.toUInt64 >>> ((18 : Int32) &&& 0x3f).toInt64.toUInt64).toInt64))), .second, iv blb, iv bb0, iv bb1, iv (if (p0_4 &&& (4 : Int32)) = (0 : Int32) then p0_2 else p0_3), rv r_34, rv r_42, rv r_53, rv r_68, rv b86, iv (((p0_4.toUInt32 >>> ((3 : Int32) &&& 31).toUInt32).toInt32) &&& (7 : Int32)), rv r_34, .unset] [])) _
        refine XS.iconst X110.here hx rfl (hb hby at_233) ?_
        show Steps p.tables e below (T110.setTop (mkF m 234 #[.val (.long p0_0), .second, .val (.long p0_1), .second, iv p0_2, iv p0_3, iv p0_4, iv tla, iv ta0, iv ta1, .val (.long (if (p0_4 &&& (1 : Int32)) = (0 : Int32) then p0_0 else ((p0_0.toUInt64 >>> ((18 : Int32) &&& 0x3f).toInt64.toUInt64).toInt64))), .second, iv tlb, iv tb0, iv tb1, iv bla, iv ba0, iv ba1, .val (.long (if (p0_4 &&& (2 : Int32)) = (0 : Int32) then p0_1 else ((p0_1.toUInt64 >>> ((18 : Int32) &&& 0x3f).toInt64.toUInt64).toInt64))), .second, iv blb, iv bb0, iv bb1, iv (if (p0_4 &&& (4 : Int32)) = (0 : Int32) then p0_2 else p0_3), rv r_34, rv r_42, rv r_53, rv r_68, rv b86, iv (((p0_4.toUInt32 >>> ((3 : Int32) &&& 31).toUInt32).toInt32) &&& (7 : Int32)), rv r_34, .unset] [(.int (0 : Int32))])) _
        refine XS.istore X110.here hx rfl (hb hby at_234) rfl (l' := #[.val (.long p0_0), .second, .val (.long p0_1), .second, iv p0_2, iv p0_3, iv p0_4, iv tla, iv ta0, iv ta1, .val (.long (if (p0_4 &&& (1 : Int32)) = (0 : Int32) then p0_0 else ((p0_0.toUInt64 >>> ((18 : Int32) &&& 0x3f).toInt64.toUInt64).toInt64))), .second, iv tlb, iv tb0, iv tb1, iv bla, iv ba0, iv ba1, .val (.long (if (p0_4 &&& (2 : Int32)) = (0 : Int32) then p0_1 else ((p0_1.toUInt64 >>> ((18 : Int32) &&& 0x3f).toInt64.toUInt64).toInt64))), .second, iv blb, iv bb0, iv bb1, iv (if (p0_4 &&& (4 : Int32)) = (0 : Int32) then p0_2 else p0_3), rv r_34, rv r_42, rv r_53, rv r_68, rv b86, iv (((p0_4.toUInt32 >>> ((3 : Int32) &&& 31).toUInt32).toInt32) &&& (7 : Int32)), rv r_34, iv (0 : Int32)]) rfl ?_
        show Steps p.tables e below (T110.setTop (mkF m 236 #[.val (.long p0_0), .second, .val (.long p0_1), .second, iv p0_2, iv p0_3, iv p0_4, iv tla, iv ta0, iv ta1, .val (.long (if (p0_4 &&& (1 : Int32)) = (0 : Int32) then p0_0 else ((p0_0.toUInt64 >>> ((18 : Int32) &&& 0x3f).toInt64.toUInt64).toInt64))), .second, iv tlb, iv tb0, iv tb1, iv bla, iv ba0, iv ba1, .val (.long (if (p0_4 &&& (2 : Int32)) = (0 : Int32) then p0_1 else ((p0_1.toUInt64 >>> ((18 : Int32) &&& 0x3f).toInt64.toUInt64).toInt64))), .second, iv blb, iv bb0, iv bb1, iv (if (p0_4 &&& (4 : Int32)) = (0 : Int32) then p0_2 else p0_3), rv r_34, rv r_42, rv r_53, rv r_68, rv b86, iv (((p0_4.toUInt32 >>> ((3 : Int32) &&& 31).toUInt32).toInt32) &&& (7 : Int32)), rv r_34, iv (0 : Int32)] [])) _
        refine XS.goto X110.here hx rfl (pc0 := 236) (pc' := 320) rfl (hb hby at_236) (by decide) (by decide) ?_
        show Steps p.tables e below (T110.setTop (mkF m 320 #[.val (.long p0_0), .second, .val (.long p0_1), .second, iv p0_2, iv p0_3, iv p0_4, iv tla, iv ta0, iv ta1, .val (.long (if (p0_4 &&& (1 : Int32)) = (0 : Int32) then p0_0 else ((p0_0.toUInt64 >>> ((18 : Int32) &&& 0x3f).toInt64.toUInt64).toInt64))), .second, iv tlb, iv tb0, iv tb1, iv bla, iv ba0, iv ba1, .val (.long (if (p0_4 &&& (2 : Int32)) = (0 : Int32) then p0_1 else ((p0_1.toUInt64 >>> ((18 : Int32) &&& 0x3f).toInt64.toUInt64).toInt64))), .second, iv blb, iv bb0, iv bb1, iv (if (p0_4 &&& (4 : Int32)) = (0 : Int32) then p0_2 else p0_3), rv r_34, rv r_42, rv r_53, rv r_68, rv b86, iv (((p0_4.toUInt32 >>> ((3 : Int32) &&& 31).toUInt32).toInt32) &&& (7 : Int32)), rv r_34, iv (0 : Int32)] [])) _
        refine XS.aload X110.here hx rfl (hb hby at_320) rfl rfl ?_
        show Steps p.tables e below (T110.setTop (mkF m 322 #[.val (.long p0_0), .second, .val (.long p0_1), .second, iv p0_2, iv p0_3, iv p0_4, iv tla, iv ta0, iv ta1, .val (.long (if (p0_4 &&& (1 : Int32)) = (0 : Int32) then p0_0 else ((p0_0.toUInt64 >>> ((18 : Int32) &&& 0x3f).toInt64.toUInt64).toInt64))), .second, iv tlb, iv tb0, iv tb1, iv bla, iv ba0, iv ba1, .val (.long (if (p0_4 &&& (2 : Int32)) = (0 : Int32) then p0_1 else ((p0_1.toUInt64 >>> ((18 : Int32) &&& 0x3f).toInt64.toUInt64).toInt64))), .second, iv blb, iv bb0, iv bb1, iv (if (p0_4 &&& (4 : Int32)) = (0 : Int32) then p0_2 else p0_3), rv r_34, rv r_42, rv r_53, rv r_68, rv b86, iv (((p0_4.toUInt32 >>> ((3 : Int32) &&& 31).toUInt32).toInt32) &&& (7 : Int32)), rv r_34, iv (0 : Int32)] [(.ref b86)])) _
        refine XS.aload X110.here hx rfl (hb hby at_322) rfl rfl ?_
        show Steps p.tables e below (T110.setTop (mkF m 324 #[.val (.long p0_0), .second, .val (.long p0_1), .second, iv p0_2, iv p0_3, iv p0_4, iv tla, iv ta0, iv ta1, .val (.long (if (p0_4 &&& (1 : Int32)) = (0 : Int32) then p0_0 else ((p0_0.toUInt64 >>> ((18 : Int32) &&& 0x3f).toInt64.toUInt64).toInt64))), .second, iv tlb, iv tb0, iv tb1, iv bla, iv ba0, iv ba1, .val (.long (if (p0_4 &&& (2 : Int32)) = (0 : Int32) then p0_1 else ((p0_1.toUInt64 >>> ((18 : Int32) &&& 0x3f).toInt64.toUInt64).toInt64))), .second, iv blb, iv bb0, iv bb1, iv (if (p0_4 &&& (4 : Int32)) = (0 : Int32) then p0_2 else p0_3), rv r_34, rv r_42, rv r_53, rv r_68, rv b86, iv (((p0_4.toUInt32 >>> ((3 : Int32) &&& 31).toUInt32).toInt32) &&& (7 : Int32)), rv r_34, iv (0 : Int32)] [(.ref r_34), (.ref b86)])) _
        refine st126.trans ?_
        show Steps p.tables e below (T126.setTop (mkF m 327 #[.val (.long p0_0), .second, .val (.long p0_1), .second, iv p0_2, iv p0_3, iv p0_4, iv tla, iv ta0, iv ta1, .val (.long (if (p0_4 &&& (1 : Int32)) = (0 : Int32) then p0_0 else ((p0_0.toUInt64 >>> ((18 : Int32) &&& 0x3f).toInt64.toUInt64).toInt64))), .second, iv tlb, iv tb0, iv tb1, iv bla, iv ba0, iv ba1, .val (.long (if (p0_4 &&& (2 : Int32)) = (0 : Int32) then p0_1 else ((p0_1.toUInt64 >>> ((18 : Int32) &&& 0x3f).toInt64.toUInt64).toInt64))), .second, iv blb, iv bb0, iv bb1, iv (if (p0_4 &&& (4 : Int32)) = (0 : Int32) then p0_2 else p0_3), rv r_34, rv r_42, rv r_53, rv r_68, rv b86, iv (((p0_4.toUInt32 >>> ((3 : Int32) &&& 31).toUInt32).toInt32) &&& (7 : Int32)), rv r_34, iv (0 : Int32)] [(.int (0 : Int32))])) _
        refine XS.iload X126.here hx rfl (hb hby at_327) rfl ?_
        show Steps p.tables e below (T126.setTop (mkF m 329 #[.val (.long p0_0), .second, .val (.long p0_1), .second, iv p0_2, iv p0_3, iv p0_4, iv tla, iv ta0, iv ta1, .val (.long (if (p0_4 &&& (1 : Int32)) = (0 : Int32) then p0_0 else ((p0_0.toUInt64 >>> ((18 : Int32) &&& 0x3f).toInt64.toUInt64).toInt64))), .second, iv tlb, iv tb0, iv tb1, iv bla, iv ba0, iv ba1, .val (.long (if (p0_4 &&& (2 : Int32)) = (0 : Int32) then p0_1 else ((p0_1.toUInt64 >>> ((18 : Int32) &&& 0x3f).toInt64.toUInt64).toInt64))), .second, iv blb, iv bb0, iv bb1, iv (if (p0_4 &&& (4 : Int32)) = (0 : Int32) then p0_2 else p0_3), rv r_34, rv r_42, rv r_53, rv r_68, rv b86, iv (((p0_4.toUInt32 >>> ((3 : Int32) &&& 31).toUInt32).toInt32) &&& (7 : Int32)), rv r_34, iv (0 : Int32)] [(.int (0 : Int32)), (.int (0 : Int32))])) _
        refine XS.icmpNo X126.here hx rfl (hb hby at_329) rfl (teq (by decide : (0 : Int32) = (0 : Int32))).2 ?_
        show Steps p.tables e below (T126.setTop (mkF m 332 #[.val (.long p0_0), .second, .val (.long p0_1), .second, iv p0_2, iv p0_3, iv p0_4, iv tla, iv ta0, iv ta1, .val (.long (if (p0_4 &&& (1 : Int32)) = (0 : Int32) then p0_0 else ((p0_0.toUInt64 >>> ((18 : Int32) &&& 0x3f).toInt64.toUInt64).toInt64))), .second, iv tlb, iv tb0, iv tb1, iv bla, iv ba0, iv ba1, .val (.long (if (p0_4 &&& (2 : Int32)) = (0 : Int32) then p0_1 else ((p0_1.toUInt64 >>> ((18 : Int32) &&& 0x3f).toInt64.toUInt64).toInt64))), .second, iv blb, iv bb0, iv bb1, iv (if (p0_4 &&& (4 : Int32)) = (0 : Int32) then p0_2 else p0_3), rv r_34, rv r_42, rv r_53, rv r_68, rv b86, iv (((p0_4.toUInt32 >>> ((3 : Int32) &&& 31).toUInt32).toInt32) &&& (7 : Int32)), rv r_34, iv (0 : Int32)] [])) _
        refine XS.iconst X126.here hx rfl (hb hby at_332) ?_
        show Steps p.tables e below (T126.setTop (mkF m 333 #[.val (.long p0_0), .second, .val (.long p0_1), .second, iv p0_2, iv p0_3, iv p0_4, iv tla, iv ta0, iv ta1, .val (.long (if (p0_4 &&& (1 : Int32)) = (0 : Int32) then p0_0 else ((p0_0.toUInt64 >>> ((18 : Int32) &&& 0x3f).toInt64.toUInt64).toInt64))), .second, iv tlb, iv tb0, iv tb1, iv bla, iv ba0, iv ba1, .val (.long (if (p0_4 &&& (2 : Int32)) = (0 : Int32) then p0_1 else ((p0_1.toUInt64 >>> ((18 : Int32) &&& 0x3f).toInt64.toUInt64).toInt64))), .second, iv blb, iv bb0, iv bb1, iv (if (p0_4 &&& (4 : Int32)) = (0 : Int32) then p0_2 else p0_3), rv r_34, rv r_42, rv r_53, rv r_68, rv b86, iv (((p0_4.toUInt32 >>> ((3 : Int32) &&& 31).toUInt32).toInt32) &&& (7 : Int32)), rv r_34, iv (0 : Int32)] [(.int (1 : Int32))])) _
        refine XS.goto X126.here hx rfl (pc0 := 333) (pc' := 337) rfl (hb hby at_333) (by decide) (by decide) ?_
        show Steps p.tables e below (T126.setTop (mkF m 337 #[.val (.long p0_0), .second, .val (.long p0_1), .second, iv p0_2, iv p0_3, iv p0_4, iv tla, iv ta0, iv ta1, .val (.long (if (p0_4 &&& (1 : Int32)) = (0 : Int32) then p0_0 else ((p0_0.toUInt64 >>> ((18 : Int32) &&& 0x3f).toInt64.toUInt64).toInt64))), .second, iv tlb, iv tb0, iv tb1, iv bla, iv ba0, iv ba1, .val (.long (if (p0_4 &&& (2 : Int32)) = (0 : Int32) then p0_1 else ((p0_1.toUInt64 >>> ((18 : Int32) &&& 0x3f).toInt64.toUInt64).toInt64))), .second, iv blb, iv bb0, iv bb1, iv (if (p0_4 &&& (4 : Int32)) = (0 : Int32) then p0_2 else p0_3), rv r_34, rv r_42, rv r_53, rv r_68, rv b86, iv (((p0_4.toUInt32 >>> ((3 : Int32) &&& 31).toUInt32).toInt32) &&& (7 : Int32)), rv r_34, iv (0 : Int32)] [(.int (1 : Int32))])) _
        exact retN X126 hx (t := .boolean) Bd.returns (by simp) (hb hby at_337) hr
      · show Q_rm0 Z _ _ _ _ _ _ h0 n0 _ T126.heap _
        rw [K126q]
        exact ⟨rfl, N129, (K115)⟩
    · skip
      have pre132 : ∀ t, Steps p.tables e below (T110.setTop (mkF m 242 #[.val (.long p0_0), .second, .val (.long p0_1), .second, iv p0_2, iv p0_3, iv p0_4, iv tla, iv ta0, iv ta1, .val (.long (if (p0_4 &&& (1 : Int32)) = (0 : Int32) then p0_0 else ((p0_0.toUInt64 >>> ((18 : Int32) &&& 0x3f).toInt64.toUInt64).toInt64))), .second, iv tlb, iv tb0, iv tb1, iv bla, iv ba0, iv ba1, .val (.long (if (p0_4 &&& (2 : Int32)) = (0 : Int32) then p0_1 else ((p0_1.toUInt64 >>> ((18 : Int32) &&& 0x3f).toInt64.toUInt64).toInt64))), .second, iv blb, iv bb0, iv bb1, iv (if (p0_4 &&& (4 : Int32)) = (0 : Int32) then p0_2 else p0_3), rv r_34, rv r_42, rv r_53, rv r_68, rv b86, iv (((p0_4.toUInt32 >>> ((3 : Int32) &&& 31).toUInt32).toInt32) &&& (7 : Int32)), .unset, .unset] [(.int (3 : Int32)), (.int (((p0_4.toUInt32 >>> ((3 : Int32) &&& 31).toUInt32).toInt32) &&& (7 : Int32)))])) t → Steps p.tables e below (s₁.setTop (entryFrame m #[(.long p0_0), (.long p0_1), (.int p0_2), (.int p0_3), (.int p0_4)] maxLocals)) t := by
        intro t_ k_
        refine pre124 _ ?_
        show Steps p.tables e below (T110.setTop (mkF m 226 #[.val (.long p0_0), .second, .val (.long p0_1), .second, iv p0_2, iv p0_3, iv p0_4, iv tla, iv ta0, iv ta1, .val (.long (if (p0_4 &&& (1 : Int32)) = (0 : Int32) then p0_0 else ((p0_0.toUInt64 >>> ((18 : Int32) &&& 0x3f).toInt64.toUInt64).toInt64))), .second, iv tlb, iv tb0, iv tb1, iv bla, iv ba0, iv ba1, .val (.long (if (p0_4 &&& (2 : Int32)) = (0 : Int32) then p0_1 else ((p0_1.toUInt64 >>> ((18 : Int32) &&& 0x3f).toInt64.toUInt64).toInt64))), .second, iv blb, iv bb0, iv bb1, iv (if (p0_4 &&& (4 : Int32)) = (0 : Int32) then p0_2 else p0_3), rv r_34, rv r_42, rv r_53, rv r_68, rv b86, iv (((p0_4.toUInt32 >>> ((3 : Int32) &&& 31).toUInt32).toInt32) &&& (7 : Int32)), .unset, .unset] [(.int (2 : Int32)), (.int (((p0_4.toUInt32 >>> ((3 : Int32) &&& 31).toUInt32).toInt32) &&& (7 : Int32)))])) _
        refine XS.icmpYes X110.here hx rfl (pc0 := 226) (pc' := 239) rfl (hb hby at_226) rfl (feq hc226_123).2 (by decide) (by decide) ?_
        show Steps p.tables e below (T110.setTop (mkF m 239 #[.val (.long p0_0), .second, .val (.long p0_1), .second, iv p0_2, iv p0_3, iv p0_4, iv tla, iv ta0, iv ta1, .val (.long (if (p0_4 &&& (1 : Int32)) = (0 : Int32) then p0_0 else ((p0_0.toUInt64 >>> ((18 : Int32) &&& 0x3f).toInt64.toUInt64).toInt64))), .second, iv tlb, iv tb0, iv tb1, iv bla, iv ba0, iv ba1, .val (.long (if (p0_4 &&& (2 : Int32)) = (0 : Int32) then p0_1 else ((p0_1.toUInt64 >>> ((18 : Int32) &&& 0x3f).toInt64.toUInt64).toInt64))), .second, iv blb, iv bb0, iv bb1, iv (if (p0_4 &&& (4 : Int32)) = (0 : Int32) then p0_2 else p0_3), rv r_34, rv r_42, rv r_53, rv r_68, rv b86, iv (((p0_4.toUInt32 >>> ((3 : Int32) &&& 31).toUInt32).toInt32) &&& (7 : Int32)), .unset, .unset] [])) _
        refine XS.iload X110.here hx rfl (hb hby at_239) rfl ?_
        show Steps p.tables e below (T110.setTop (mkF m 241 #[.val (.long p0_0), .second, .val (.long p0_1), .second, iv p0_2, iv p0_3, iv p0_4, iv tla, iv ta0, iv ta1, .val (.long (if (p0_4 &&& (1 : Int32)) = (0 : Int32) then p0_0 else ((p0_0.toUInt64 >>> ((18 : Int32) &&& 0x3f).toInt64.toUInt64).toInt64))), .second, iv tlb, iv tb0, iv tb1, iv bla, iv ba0, iv ba1, .val (.long (if (p0_4 &&& (2 : Int32)) = (0 : Int32) then p0_1 else ((p0_1.toUInt64 >>> ((18 : Int32) &&& 0x3f).toInt64.toUInt64).toInt64))), .second, iv blb, iv bb0, iv bb1, iv (if (p0_4 &&& (4 : Int32)) = (0 : Int32) then p0_2 else p0_3), rv r_34, rv r_42, rv r_53, rv r_68, rv b86, iv (((p0_4.toUInt32 >>> ((3 : Int32) &&& 31).toUInt32).toInt32) &&& (7 : Int32)), .unset, .unset] [(.int (((p0_4.toUInt32 >>> ((3 : Int32) &&& 31).toUInt32).toInt32) &&& (7 : Int32)))])) _
        refine XS.iconst X110.here hx rfl (hb hby at_241) ?_
        exact k_
      by_cases hc242_131 : (((p0_4.toUInt32 >>> ((3 : Int32) &&& 31).toUInt32).toInt32) &&& (7 : Int32)) = (3 : Int32)
      · skip
        have f133 := (((f67.keep K68q all0).ext E86).keep K110q (allS g101 all0))
        have f134 := (A86.keep K110q)
        have f135 := ((f87.ext E86).keep K110q)
        have f136 := (((((hq34_2.keep K42q nin0).keep K53q nin0).keep K68q nin0).ext E86).keep K110q (ninS ne88 nin0))
        have f137 := (((((hq34_3.keep K42q nin0).keep K53q nin0).keep K68q nin0).ext E86).keep K110q (ninS ne88 nin0))
        have f138 := ((f89.ext E86).keep K110q (ninS ne90 nin0))
        have f139 := ((f95.ext E86).keep K110q)
        have f140 := (((hq53_2.keep K68q nin0).ext E86).keep K110q (ninS ne96 nin0))
        have f141 := (((hq53_3.keep K68q nin0).ext E86).keep K110q (ninS ne96 nin0))
        have f142 := ((f97.ext E86).keep K110q (ninS ne98 nin0))
        have f144 := (Nat.le_trans f111 K110q.1)
        obtain ⟨cq143, kq143, q143a, q143b, q143c⟩ := isOf hZ rfl f134
        obtain ⟨_, _, ⟨T143, L143, k143, n143⟩, -, X143, ⟨Lc143, hQ143, l143, y143, z143⟩, st143⟩ := X110.virtualBack hx (y := MN12) (z := MN12) hown (mvT hZ wo58) (mvT hZ wo59) (notFace_of_selects (args := #[]) (mvT hZ wo61)) (mvT hZ wo61) (mvT hZ wo60) (by decide) (backOf (W := 0) (rmEq l Z a0 hw [] b86 b86 r_34 b_34 tla (own_bl tla ta0 ta1) r_34 b_34 tla (own_bl tla ta0 ta1) r_53 b_53 bla (own_bl bla ba0 ba1) r_53 b_53 bla (own_bl bla ba0 ba1) p0_2 p0_2 cs (T110.heap) n0 f144 f133 pf_S_java_lang_String_COMPACT_STRINGS (hcs : ¬ (cs = (0 : Int32))) f134 f134 hq110_0 hq110_0 hq110_1 hq110_1 hq110_2 hq110_2 f135 f136 f137 f138 (own_bll h3tla : tla = Int32.ofNat (own_bl tla ta0 ta1).length) (own_blr hrta0 hrta1 : ∀ c ∈ (own_bl tla ta0 ta1), ¬ c < 0 ∧ ¬ (255 : Int32) < c) (own_ble : (own_bl tla ta0 ta1).length ≤ 4000) f135 f136 f137 f138 (own_bll h3tla : tla = Int32.ofNat (own_bl tla ta0 ta1).length) (own_blr hrta0 hrta1 : ∀ c ∈ (own_bl tla ta0 ta1), ¬ c < 0 ∧ ¬ (255 : Int32) < c) (own_ble : (own_bl tla ta0 ta1).length ≤ 4000) f139 f140 f141 f142 (own_bll h3bla : bla = Int32.ofNat (own_bl bla ba0 ba1).length) (own_blr hrba0 hrba1 : ∀ c ∈ (own_bl bla ba0 ba1), ¬ c < 0 ∧ ¬ (255 : Int32) < c) (own_ble : (own_bl bla ba0 ba1).length ≤ 4000) f139 f140 f141 f142 (own_bll h3bla : bla = Int32.ofNat (own_bl bla ba0 ba1).length) (own_blr hrba0 hrba1 : ∀ c ∈ (own_bl bla ba0 ba1), ¬ c < 0 ∧ ¬ (255 : Int32) < c) (own_ble : (own_bl bla ba0 ba1).length ≤ 4000)) hZ wo62 wo44 (by decide) (by decide)) q143a q143c (g := (mkF m 324 #[.val (.long p0_0), .second, .val (.long p0_1), .second, iv p0_2, iv p0_3, iv p0_4, iv tla, iv ta0, iv ta1, .val (.long (if (p0_4 &&& (1 : Int32)) = (0 : Int32) then p0_0 else ((p0_0.toUInt64 >>> ((18 : Int32) &&& 0x3f).toInt64.toUInt64).toInt64))), .second, iv tlb, iv tb0, iv tb1, iv bla, iv ba0, iv ba1, .val (.long (if (p0_4 &&& (2 : Int32)) = (0 : Int32) then p0_1 else ((p0_1.toUInt64 >>> ((18 : Int32) &&& 0x3f).toInt64.toUInt64).toInt64))), .second, iv blb, iv bb0, iv bb1, iv (if (p0_4 &&& (4 : Int32)) = (0 : Int32) then p0_2 else p0_3), rv r_34, rv r_42, rv r_53, rv r_68, rv b86, iv (((p0_4.toUInt32 >>> ((3 : Int32) &&& 31).toUInt32).toInt32) &&& (7 : Int32)), rv b86, iv (1 : Int32)] [(.ref b86), (.ref b86)])) rfl (by rw [hml]; rfl) (Steps.refl _) (argsL := [(.ref b86)]) (rest := []) (lenOf pd_5 rfl) rfl (by show 2 * 0 + _ ≤ _; exact Nat.le_of_eq rfl) (hb hby at_324) (fun _ _ => ⟨rfl, rfl, (by decide : 25 + 0 ≤ _), (by decide : 51 + 0 ≤ _)⟩)
        dsimp only [Pt.U, Pt.locs, Pt.cells, Pt.slots] at X143 l143 y143 z143 st143 hQ143
        rw [l143, y143, z143] at X143
        obtain ⟨rfl, N143q, K143q⟩ := hQ143
        have N145 := Fr.app N112 N143q
        have q146 : (if (own_bl tla ta0 ta1) = (own_bl tla ta0 ta1) ∧ (own_bl bla ba0 ba1) = (own_bl bla ba0 ba1) ∧ p0_2 = p0_2 then (1 : Int32) else (0 : Int32)) = (1 : Int32) := if_pos ⟨rfl, rfl, rfl⟩
        have f147 := (Nat.le_trans (Nat.le_trans (Nat.le_refl T68.heap.size) E86.1) K110q.1)
        obtain ⟨fs, hr, hrun, hended, -, hW1, hW2, hW3⟩ := X143.leaveW S68 (by rw [K143q]; exact f147) (v := some (.int (1 : Int32))) (fun h => by rw [Bd.returns] at h; cases h)
        refine ⟨_, _, pre132 _ ?_, hrun, hended, _, _, rfl, ?_, hW1, hW2, hW3.mono (by decide) (by decide)⟩
        · show Steps p.tables e below (T110.setTop (mkF m 242 #[.val (.long p0_0), .second, .val (.long p0_1), .second, iv p0_2, iv p0_3, iv p0_4, iv tla, iv ta0, iv ta1, .val (.long (if (p0_4 &&& (1 : Int32)) = (0 : Int32) then p0_0 else ((p0_0.toUInt64 >>> ((18 : Int32) &&& 0x3f).toInt64.toUInt64).toInt64))), .second, iv tlb, iv tb0, iv tb1, iv bla, iv ba0, iv ba1, .val (.long (if (p0_4 &&& (2 : Int32)) = (0 : Int32) then p0_1 else ((p0_1.toUInt64 >>> ((18 : Int32) &&& 0x3f).toInt64.toUInt64).toInt64))), .second, iv blb, iv bb0, iv bb1, iv (if (p0_4 &&& (4 : Int32)) = (0 : Int32) then p0_2 else p0_3), rv r_34, rv r_42, rv r_53, rv r_68, rv b86, iv (((p0_4.toUInt32 >>> ((3 : Int32) &&& 31).toUInt32).toInt32) &&& (7 : Int32)), .unset, .unset] [(.int (3 : Int32)), (.int (((p0_4.toUInt32 >>> ((3 : Int32) &&& 31).toUInt32).toInt32) &&& (7 : Int32)))])) _
          refine XS.icmpNo X110.here hx rfl (hb hby at_242) rfl (teq hc242_131).2 ?_
          show Steps p.tables e below (T110.setTop (mkF m 245 #[.val (.long p0_0), .second, .val (.long p0_1), .second, iv p0_2, iv p0_3, iv p0_4, iv tla, iv ta0, iv ta1, .val (.long (if (p0_4 &&& (1 : Int32)) = (0 : Int32) then p0_0 else ((p0_0.toUInt64 >>> ((18 : Int32) &&& 0x3f).toInt64.toUInt64).toInt64))), .second, iv tlb, iv tb0, iv tb1, iv bla, iv ba0, iv ba1, .val (.long (if (p0_4 &&& (2 : Int32)) = (0 : Int32) then p0_1 else ((p0_1.toUInt64 >>> ((18 : Int32) &&& 0x3f).toInt64.toUInt64).toInt64))), .second, iv blb, iv bb0, iv bb1, iv (if (p0_4 &&& (4 : Int32)) = (0 : Int32) then p0_2 else p0_3), rv r_34, rv r_42, rv r_53, rv r_68, rv b86, iv (((p0_4.toUInt32 >>> ((3 : Int32) &&& 31).toUInt32).toInt32) &&& (7 : Int32)), .unset, .unset] [])) _
          refine XS.aload X110.here hx rfl (hb hby at_245) rfl rfl ?_
          show Steps p.tables e below (T110.setTop (mkF m 247 #[.val (.long p0_0), .second, .val (.long p0_1), .second, iv p0_2, iv p0_3, iv p0_4, iv tla, iv ta0, iv ta1, .val (.long (if (p0_4 &&& (1 : Int32)) = (0 : Int32) then p0_0 else ((p0_0.toUInt64 >>> ((18 : Int32) &&& 0x3f).toInt64.toUInt64).toInt64))), .second, iv tlb, iv tb0, iv tb1, iv bla, iv ba0, iv ba1, .val (.long (if (p0_4 &&& (2 : Int32)) = (0 : Int32) then p0_1 else ((p0_1.toUInt64 >>> ((18 : Int32) &&& 0x3f).toInt64.toUInt64).toInt64))), .second, iv blb, iv bb0, iv bb1, iv (if (p0_4 &&& (4 : Int32)) = (0 : Int32) then p0_2 else p0_3), rv r_34, rv r_42, rv r_53, rv r_68, rv b86, iv (((p0_4.toUInt32 >>> ((3 : Int32) &&& 31).toUInt32).toInt32) &&& (7 : Int32)), .unset, .unset] [(.ref b86)])) _
          refine XS.astore X110.here hx rfl (hb hby at_247) rfl rfl (l' := #[.val (.long p0_0), .second, .val (.long p0_1), .second, iv p0_2, iv p0_3, iv p0_4, iv tla, iv ta0, iv ta1, .val (.long (if (p0_4 &&& (1 : Int32)) = (0 : Int32) then p0_0 else ((p0_0.toUInt64 >>> ((18 : Int32) &&& 0x3f).toInt64.toUInt64).toInt64))), .second, iv tlb, iv tb0, iv tb1, iv bla, iv ba0, iv ba1, .val (.long (if (p0_4 &&& (2 : Int32)) = (0 : Int32) then p0_1 else ((p0_1.toUInt64 >>> ((18 : Int32) &&& 0x3f).toInt64.toUInt64).toInt64))), .second, iv blb, iv bb0, iv bb1, iv (if (p0_4 &&& (4 : Int32)) = (0 : Int32) then p0_2 else p0_3), rv r_34, rv r_42, rv r_53, rv r_68, rv b86, iv (((p0_4.toUInt32 >>> ((3 : Int32) &&& 31).toUInt32).toInt32) &&& (7 : Int32)), rv b86, .unset]) rfl ?_
          show Steps p.tables e below (T110.setTop (mkF m 249 #[.val (.long p0_0), .second, .val (.long p0_1), .second, iv p0_2, iv p0_3, iv p0_4, iv tla, iv ta0, iv ta1, .val (.long (if (p0_4 &&& (1 : Int32)) = (0 : Int32) then p0_0 else ((p0_0.toUInt64 >>> ((18 : Int32) &&& 0x3f).toInt64.toUInt64).toInt64))), .second, iv tlb, iv tb0, iv tb1, iv bla, iv ba0, iv ba1, .val (.long (if (p0_4 &&& (2 : Int32)) = (0 : Int32) then p0_1 else ((p0_1.toUInt64 >>> ((18 : Int32) &&& 0x3f).toInt64.toUInt64).toInt64))), .second, iv blb, iv bb0, iv bb1, iv (if (p0_4 &&& (4 : Int32)) = (0 : Int32) then p0_2 else p0_3), rv r_34, rv r_42, rv r_53, rv r_68, rv b86, iv (((p0_4.toUInt32 >>> ((3 : Int32) &&& 31).toUInt32).toInt32) &&& (7 : Int32)), rv b86, .unset] [])) _
          refine XS.iconst X110.here hx rfl (hb hby at_249) ?_
          show Steps p.tables e below (T110.setTop (mkF m 250 #[.val (.long p0_0), .second, .val (.long p0_1), .second, iv p0_2, iv p0_3, iv p0_4, iv tla, iv ta0, iv ta1, .val (.long (if (p0_4 &&& (1 : Int32)) = (0 : Int32) then p0_0 else ((p0_0.toUInt64 >>> ((18 : Int32) &&& 0x3f).toInt64.toUInt64).toInt64))), .second, iv tlb, iv tb0, iv tb1, iv bla, iv ba0, iv ba1, .val (.long (if (p0_4 &&& (2 : Int32)) = (0 : Int32) then p0_1 else ((p0_1.toUInt64 >>> ((18 : Int32) &&& 0x3f).toInt64.toUInt64).toInt64))), .second, iv blb, iv bb0, iv bb1, iv (if (p0_4 &&& (4 : Int32)) = (0 : Int32) then p0_2 else p0_3), rv r_34, rv r_42, rv r_53, rv r_68, rv b86, iv (((p0_4.toUInt32 >>> ((3 : Int32) &&& 31).toUInt32).toInt32) &&& (7 : Int32)), rv b86, .unset] [(.int (1 : Int32))])) _
          refine XS.istore X110.here hx rfl (hb hby at_250) rfl (l' := #[.val (.long p0_0), .second, .val (.long p0_1), .second, iv p0_2, iv p0_3, iv p0_4, iv tla, iv ta0, iv ta1, .val (.long (if (p0_4 &&& (1 : Int32)) = (0 : Int32) then p0_0 else ((p0_0.toUInt64 >>> ((18 : Int32) &&& 0x3f).toInt64.toUInt64).toInt64))), .second, iv tlb, iv tb0, iv tb1, iv bla, iv ba0, iv ba1, .val (.long (if (p0_4 &&& (2 : Int32)) = (0 : Int32) then p0_1 else ((p0_1.toUInt64 >>> ((18 : Int32) &&& 0x3f).toInt64.toUInt64).toInt64))), .second, iv blb, iv bb0, iv bb1, iv (if (p0_4 &&& (4 : Int32)) = (0 : Int32) then p0_2 else p0_3), rv r_34, rv r_42, rv r_53, rv r_68, rv b86, iv (((p0_4.toUInt32 >>> ((3 : Int32) &&& 31).toUInt32).toInt32) &&& (7 : Int32)), rv b86, iv (1 : Int32)]) rfl ?_
          show Steps p.tables e below (T110.setTop (mkF m 252 #[.val (.long p0_0), .second, .val (.long p0_1), .second, iv p0_2, iv p0_3, iv p0_4, iv tla, iv ta0, iv ta1, .val (.long (if (p0_4 &&& (1 : Int32)) = (0 : Int32) then p0_0 else ((p0_0.toUInt64 >>> ((18 : Int32) &&& 0x3f).toInt64.toUInt64).toInt64))), .second, iv tlb, iv tb0, iv tb1, iv bla, iv ba0, iv ba1, .val (.long (if (p0_4 &&& (2 : Int32)) = (0 : Int32) then p0_1 else ((p0_1.toUInt64 >>> ((18 : Int32) &&& 0x3f).toInt64.toUInt64).toInt64))), .second, iv blb, iv bb0, iv bb1, iv (if (p0_4 &&& (4 : Int32)) = (0 : Int32) then p0_2 else p0_3), rv r_34, rv r_42, rv r_53, rv r_68, rv b86, iv (((p0_4.toUInt32 >>> ((3 : Int32) &&& 31).toUInt32).toInt32) &&& (7 : Int32)), rv b86, iv (1 : Int32)] [])) _
          refine XS.goto X110.here hx rfl (pc0 := 252) (pc' := 320) rfl (hb hby at_252) (by decide) (by decide) ?_
          show Steps p.tables e below (T110.setTop (mkF m 320 #[.val (.long p0_0), .second, .val (.long p0_1), .second, iv p0_2, iv p0_3, iv p0_4, iv tla, iv ta0, iv ta1, .val (.long (if (p0_4 &&& (1 : Int32)) = (0 : Int32) then p0_0 else ((p0_0.toUInt64 >>> ((18 : Int32) &&& 0x3f).toInt64.toUInt64).toInt64))), .second, iv tlb, iv tb0, iv tb1, iv bla, iv ba0, iv ba1, .val (.long (if (p0_4 &&& (2 : Int32)) = (0 : Int32) then p0_1 else ((p0_1.toUInt64 >>> ((18 : Int32) &&& 0x3f).toInt64.toUInt64).toInt64))), .second, iv blb, iv bb0, iv bb1, iv (if (p0_4 &&& (4 : Int32)) = (0 : Int32) then p0_2 else p0_3), rv r_34, rv r_42, rv r_53, rv r_68, rv b86, iv (((p0_4.toUInt32 >>> ((3 : Int32) &&& 31).toUInt32).toInt32) &&& (7 : Int32)), rv b86, iv (1 : Int32)] [])) _
          refine XS.aload X110.here hx rfl (hb hby at_320) rfl rfl ?_
          show Steps p.tables e below (T110.setTop (mkF m 322 #[.val (.long p0_0), .second, .val (.long p0_1), .second, iv p0_2, iv p0_3, iv p0_4, iv tla, iv ta0, iv ta1, .val (.long (if (p0_4 &&& (1 : Int32)) = (0 : Int32) then p0_0 else ((p0_0.toUInt64 >>> ((18 : Int32) &&& 0x3f).toInt64.toUInt64).toInt64))), .second, iv tlb, iv tb0, iv tb1, iv bla, iv ba0, iv ba1, .val (.long (if (p0_4 &&& (2 : Int32)) = (0 : Int32) then p0_1 else ((p0_1.toUInt64 >>> ((18 : Int32) &&& 0x3f).toInt64.toUInt64).toInt64))), .second, iv blb, iv bb0, iv bb1, iv (if (p0_4 &&& (4 : Int32)) = (0 : Int32) then p0_2 else p0_3), rv r_34, rv r_42, rv r_53, rv r_68, rv b86, iv (((p0_4.toUInt32 >>> ((3 : Int32) &&& 31).toUInt32).toInt32) &&& (7 : Int32)), rv b86, iv (1 : Int32)] [(.ref b86)])) _
          refine XS.aload X110.here hx rfl (hb hby at_322) rfl rfl ?_
          show Steps p.tables e below (T110.setTop (mkF m 324 #[.val (.long p0_0), .second, .val (.long p0_1), .second, iv p0_2, iv p0_3, iv p0_4, iv tla, iv ta0, iv ta1, .val (.long (if (p0_4 &&& (1 : Int32)) = (0 : Int32) then p0_0 else ((p0_0.toUInt64 >>> ((18 : Int32) &&& 0x3f).toInt64.toUInt64).toInt64))), .second, iv tlb, iv tb0, iv tb1, iv bla, iv ba0, iv ba1, .val (.long (if (p0_4 &&& (2 : Int32)) = (0 : Int32) then p0_1 else ((p0_1.toUInt64 >>> ((18 : Int32) &&& 0x3f).toInt64.toUInt64).toInt64))), .second, iv blb, iv bb0, iv bb1, iv (if (p0_4 &&& (4 : Int32)) = (0 : Int32) then p0_2 else p0_3), rv r_34, rv r_42, rv r_53, rv r_68, rv b86, iv (((p0_4.toUInt32 >>> ((3 : Int32) &&& 31).toUInt32).toInt32) &&& (7 : Int32)), rv b86, iv (1 : Int32)] [(.ref b86), (.ref b86)])) _
          refine st143.trans ?_
          show Steps p.tables e below (T143.setTop (mkF m 327 #[.val (.long p0_0), .second, .val (.long p0_1), .second, iv p0_2, iv p0_3, iv p0_4, iv tla, iv ta0, iv ta1, .val (.long (if (p0_4 &&& (1 : Int32)) = (0 : Int32) then p0_0 else ((p0_0.toUInt64 >>> ((18 : Int32) &&& 0x3f).toInt64.toUInt64).toInt64))), .second, iv tlb, iv tb0, iv tb1, iv bla, iv ba0, iv ba1, .val (.long (if (p0_4 &&& (2 : Int32)) = (0 : Int32) then p0_1 else ((p0_1.toUInt64 >>> ((18 : Int32) &&& 0x3f).toInt64.toUInt64).toInt64))), .second, iv blb, iv bb0, iv bb1, iv (if (p0_4 &&& (4 : Int32)) = (0 : Int32) then p0_2 else p0_3), rv r_34, rv r_42, rv r_53, rv r_68, rv b86, iv (((p0_4.toUInt32 >>> ((3 : Int32) &&& 31).toUInt32).toInt32) &&& (7 : Int32)), rv b86, iv (1 : Int32)] [(.int (if (own_bl tla ta0 ta1) = (own_bl tla ta0 ta1) ∧ (own_bl bla ba0 ba1) = (own_bl bla ba0 ba1) ∧ p0_2 = p0_2 then (1 : Int32) else (0 : Int32)))])) _
          rw [q146]
          show Steps p.tables e below (T143.setTop (mkF m 327 #[.val (.long p0_0), .second, .val (.long p0_1), .second, iv p0_2, iv p0_3, iv p0_4, iv tla, iv ta0, iv ta1, .val (.long (if (p0_4 &&& (1 : Int32)) = (0 : Int32) then p0_0 else ((p0_0.toUInt64 >>> ((18 : Int32) &&& 0x3f).toInt64.toUInt64).toInt64))), .second, iv tlb, iv tb0, iv tb1, iv bla, iv ba0, iv ba1, .val (.long (if (p0_4 &&& (2 : Int32)) = (0 : Int32) then p0_1 else ((p0_1.toUInt64 >>> ((18 : Int32) &&& 0x3f).toInt64.toUInt64).toInt64))), .second, iv blb, iv bb0, iv bb1, iv (if (p0_4 &&& (4 : Int32)) = (0 : Int32) then p0_2 else p0_3), rv r_34, rv r_42, rv r_53, rv r_68, rv b86, iv (((p0_4.toUInt32 >>> ((3 : Int32) &&& 31).toUInt32).toInt32) &&& (7 : Int32)), rv b86, iv (1 : Int32)] [(.int (1 : Int32))])) _
          show Steps p.tables e below (T143.setTop (mkF m 327 #[.val (.long p0_0), .second, .val (.long p0_1), .second, iv p0_2, iv p0_3, iv p0_4, iv tla, iv ta0, iv ta1, .val (.long (if (p0_4 &&& (1 : Int32)) = (0 : Int32) then p0_0 else ((p0_0.toUInt64 >>> ((18 : Int32) &&& 0x3f).toInt64.toUInt64).toInt64))), .second, iv tlb, iv tb0, iv tb1, iv bla, iv ba0, iv ba1, .val (.long (if (p0_4 &&& (2 : Int32)) = (0 : Int32) then p0_1 else ((p0_1.toUInt64 >>> ((18 : Int32) &&& 0x3f).toInt64.toUInt64).toInt64))), .second, iv blb, iv bb0, iv bb1, iv (if (p0_4 &&& (4 : Int32)) = (0 : Int32) then p0_2 else p0_3), rv r_34, rv r_42, rv r_53, rv r_68, rv b86, iv (((p0_4.toUInt32 >>> ((3 : Int32) &&& 31).toUInt32).toInt32) &&& (7 : Int32)), rv b86, iv (1 : Int32)] [(.int (1 : Int32))])) _
          refine XS.iload X143.here hx rfl (hb hby at_327) rfl ?_
          show Steps p.tables e below (T143.setTop (mkF m 329 #[.val (.long p0_0), .second, .val (.long p0_1), .second, iv p0_2, iv p0_3, iv p0_4, iv tla, iv ta0, iv ta1, .val (.long (if (p0_4 &&& (1 : Int32)) = (0 : Int32) then p0_0 else ((p0_0.toUInt64 >>> ((18 : Int32) &&& 0x3f).toInt64.toUInt64).toInt64))), .second, iv tlb, iv tb0, iv tb1, iv bla, iv ba0, iv ba1, .val (.long (if (p0_4 &&& (2 : Int32)) = (0 : Int32) then p0_1 else ((p0_1.toUInt64 >>> ((18 : Int32) &&& 0x3f).toInt64.toUInt64).toInt64))), .second, iv blb, iv bb0, iv bb1, iv (if (p0_4 &&& (4 : Int32)) = (0 : Int32) then p0_2 else p0_3), rv r_34, rv r_42, rv r_53, rv r_68, rv b86, iv (((p0_4.toUInt32 >>> ((3 : Int32) &&& 31).toUInt32).toInt32) &&& (7 : Int32)), rv b86, iv (1 : Int32)] [(.int (1 : Int32)), (.int (1 : Int32))])) _
          refine XS.icmpNo X143.here hx rfl (hb hby at_329) rfl (teq (by decide : (1 : Int32) = (1 : Int32))).2 ?_
          show Steps p.tables e below (T143.setTop (mkF m 332 #[.val (.long p0_0), .second, .val (.long p0_1), .second, iv p0_2, iv p0_3, iv p0_4, iv tla, iv ta0, iv ta1, .val (.long (if (p0_4 &&& (1 : Int32)) = (0 : Int32) then p0_0 else ((p0_0.toUInt64 >>> ((18 : Int32) &&& 0x3f).toInt64.toUInt64).toInt64))), .second, iv tlb, iv tb0, iv tb1, iv bla, iv ba0, iv ba1, .val (.long (if (p0_4 &&& (2 : Int32)) = (0 : Int32) then p0_1 else ((p0_1.toUInt64 >>> ((18 : Int32) &&& 0x3f).toInt64.toUInt64).toInt64))), .second, iv blb, iv bb0, iv bb1, iv (if (p0_4 &&& (4 : Int32)) = (0 : Int32) then p0_2 else p0_3), rv r_34, rv r_42, rv r_53, rv r_68, rv b86, iv (((p0_4.toUInt32 >>> ((3 : Int32) &&& 31).toUInt32).toInt32) &&& (7 : Int32)), rv b86, iv (1 : Int32)] [])) _
          refine XS.iconst X143.here hx rfl (hb hby at_332) ?_
          show Steps p.tables e below (T143.setTop (mkF m 333 #[.val (.long p0_0), .second, .val (.long p0_1), .second, iv p0_2, iv p0_3, iv p0_4, iv tla, iv ta0, iv ta1, .val (.long (if (p0_4 &&& (1 : Int32)) = (0 : Int32) then p0_0 else ((p0_0.toUInt64 >>> ((18 : Int32) &&& 0x3f).toInt64.toUInt64).toInt64))), .second, iv tlb, iv tb0, iv tb1, iv bla, iv ba0, iv ba1, .val (.long (if (p0_4 &&& (2 : Int32)) = (0 : Int32) then p0_1 else ((p0_1.toUInt64 >>> ((18 : Int32) &&& 0x3f).toInt64.toUInt64).toInt64))), .second, iv blb, iv bb0, iv bb1, iv (if (p0_4 &&& (4 : Int32)) = (0 : Int32) then p0_2 else p0_3), rv r_34, rv r_42, rv r_53, rv r_68, rv b86, iv (((p0_4.toUInt32 >>> ((3 : Int32) &&& 31).toUInt32).toInt32) &&& (7 : Int32)), rv b86, iv (1 : Int32)] [(.int (1 : Int32))])) _
          refine XS.goto X143.here hx rfl (pc0 := 333) (pc' := 337) rfl (hb hby at_333) (by decide) (by decide) ?_
          show Steps p.tables e below (T143.setTop (mkF m 337 #[.val (.long p0_0), .second, .val (.long p0_1), .second, iv p0_2, iv p0_3, iv p0_4, iv tla, iv ta0, iv ta1, .val (.long (if (p0_4 &&& (1 : Int32)) = (0 : Int32) then p0_0 else ((p0_0.toUInt64 >>> ((18 : Int32) &&& 0x3f).toInt64.toUInt64).toInt64))), .second, iv tlb, iv tb0, iv tb1, iv bla, iv ba0, iv ba1, .val (.long (if (p0_4 &&& (2 : Int32)) = (0 : Int32) then p0_1 else ((p0_1.toUInt64 >>> ((18 : Int32) &&& 0x3f).toInt64.toUInt64).toInt64))), .second, iv blb, iv bb0, iv bb1, iv (if (p0_4 &&& (4 : Int32)) = (0 : Int32) then p0_2 else p0_3), rv r_34, rv r_42, rv r_53, rv r_68, rv b86, iv (((p0_4.toUInt32 >>> ((3 : Int32) &&& 31).toUInt32).toInt32) &&& (7 : Int32)), rv b86, iv (1 : Int32)] [(.int (1 : Int32))])) _
          exact retN X143 hx (t := .boolean) Bd.returns (by simp) (hb hby at_337) hr
        · show Q_rm0 Z _ _ _ _ _ _ h0 n0 _ T143.heap _
          rw [K143q]
          exact ⟨rfl, N145, (K115)⟩
      · skip
        obtain ⟨T148, h148, X148, e148, E148, A148, D148, -, st148⟩ := newO X110 hx hZ hown wo42 wo43 wo44 rfl (g := (mkF m 255 #[.val (.long p0_0), .second, .val (.long p0_1), .second, iv p0_2, iv p0_3, iv p0_4, iv tla, iv ta0, iv ta1, .val (.long (if (p0_4 &&& (1 : Int32)) = (0 : Int32) then p0_0 else ((p0_0.toUInt64 >>> ((18 : Int32) &&& 0x3f).toInt64.toUInt64).toInt64))), .second, iv tlb, iv tb0, iv tb1, iv bla, iv ba0, iv ba1, .val (.long (if (p0_4 &&& (2 : Int32)) = (0 : Int32) then p0_1 else ((p0_1.toUInt64 >>> ((18 : Int32) &&& 0x3f).toInt64.toUInt64).toInt64))), .second, iv blb, iv bb0, iv bb1, iv (if (p0_4 &&& (4 : Int32)) = (0 : Int32) then p0_2 else p0_3), rv r_34, rv r_42, rv r_53, rv r_68, rv b86, iv (((p0_4.toUInt32 >>> ((3 : Int32) &&& 31).toUInt32).toInt32) &&& (7 : Int32)), .unset, .unset] [])) rfl (hb hby at_255) (by decide) (by decide)
        obtain ⟨b148, gg148⟩ : ∃ z, z = T110.heap.size := ⟨_, rfl⟩
        rw [← gg148] at A148 D148 st148
        have f149 := ((f87.ext E86).keep K110q)
        have ne150 : r_34 ≠ b148 := Nat.ne_of_lt (Nat.lt_of_lt_of_le f149.lt (Nat.le_of_eq gg148.symm))
        have f151 := ((f89.ext E86).keep K110q (ninS ne90 nin0))
        have ne152 : b_34 ≠ b148 := Nat.ne_of_lt (Nat.lt_of_lt_of_le f151.lt (Nat.le_of_eq gg148.symm))
        have f153 := ((f91.ext E86).keep K110q)
        have ne154 : r_42 ≠ b148 := Nat.ne_of_lt (Nat.lt_of_lt_of_le f153.lt (Nat.le_of_eq gg148.symm))
        have f155 := ((f93.ext E86).keep K110q (ninS ne94 nin0))
        have ne156 : b_42 ≠ b148 := Nat.ne_of_lt (Nat.lt_of_lt_of_le f155.lt (Nat.le_of_eq gg148.symm))
        have f157 := ((f95.ext E86).keep K110q)
        have ne158 : r_53 ≠ b148 := Nat.ne_of_lt (Nat.lt_of_lt_of_le f157.lt (Nat.le_of_eq gg148.symm))
        have f159 := ((f97.ext E86).keep K110q (ninS ne98 nin0))
        have ne160 : b_53 ≠ b148 := Nat.ne_of_lt (Nat.lt_of_lt_of_le f159.lt (Nat.le_of_eq gg148.symm))
        have f161 := ((hq68_1.ext E86).keep K110q)
        have ne162 : r_68 ≠ b148 := Nat.ne_of_lt (Nat.lt_of_lt_of_le f161.lt (Nat.le_of_eq gg148.symm))
        have f163 := ((hq68_4.ext E86).keep K110q (ninS ne100 nin0))
        have ne164 : b_68 ≠ b148 := Nat.ne_of_lt (Nat.lt_of_lt_of_le f163.lt (Nat.le_of_eq gg148.symm))
        have f165 := (A86.keep K110q)
        have ne166 : b86 ≠ b148 := Nat.ne_of_lt (Nat.lt_of_lt_of_le f165.lt (Nat.le_of_eq gg148.symm))
        have f168 := (Nat.le_trans f111 K110q.1)
        have g167 : n0 ≤ b148 := Nat.le_trans f168 (Nat.le_of_eq gg148.symm)
        have bz169 : h0.size ≤ b148 := Nat.le_trans (K115).1 (Nat.le_of_eq gg148.symm)
        have CS170 : CHr Z consts_1 T68.vm (T110.heap) T68.vm h148 := (CHr.ext E148 CR114.1)
        have CR171 := CR114.trans CS170
        have K172 : Keep h0 h148 [] := (K115).ext E148
        have f173 : Fld Z h148 b148 "com/example/topiq/topiq/protocol/MessageQueue" "topic" "Ljava/lang/String;" .null := D148 (Or.inr wo50) (ty := (.object "java/lang/String")) (by decide)
        have f174 : Fld Z h148 b148 "com/example/topiq/topiq/protocol/MessageQueue" "brokerName" "Ljava/lang/String;" .null := D148 (Or.inr wo52) (ty := (.object "java/lang/String")) (by decide)
        have f175 : Fld Z h148 b148 "com/example/topiq/topiq/protocol/MessageQueue" "queueId" "I" (.int (0 : Int32)) := D148 (Or.inr wo54) (ty := .int) (by decide)
        have f177 := (Nat.le_trans f168 E148.1)
        obtain ⟨_, _, ⟨T176, L176, k176, n176⟩, -, X176, ⟨Lc176, hQ176, l176, y176, z176⟩, st176⟩ := X148.specialBack hx (y := MN10) rfl hown (mvT hZ wo45) (mvT hZ wo46) (mvT hZ wo47) (by decide) (backOf (W := 1) (rm10 l Z a0 hw [] b148 r_42 r_68 (if (p0_4 &&& (4 : Int32)) = (0 : Int32) then p0_2 else p0_3) h148 n0 f177 A148 g167 f173 f174 f175) hZ wo47 wo44 (by decide) (by decide)) (g := (mkF m 265 #[.val (.long p0_0), .second, .val (.long p0_1), .second, iv p0_2, iv p0_3, iv p0_4, iv tla, iv ta0, iv ta1, .val (.long (if (p0_4 &&& (1 : Int32)) = (0 : Int32) then p0_0 else ((p0_0.toUInt64 >>> ((18 : Int32) &&& 0x3f).toInt64.toUInt64).toInt64))), .second, iv tlb, iv tb0, iv tb1, iv bla, iv ba0, iv ba1, .val (.long (if (p0_4 &&& (2 : Int32)) = (0 : Int32) then p0_1 else ((p0_1.toUInt64 >>> ((18 : Int32) &&& 0x3f).toInt64.toUInt64).toInt64))), .second, iv blb, iv bb0, iv bb1, iv (if (p0_4 &&& (4 : Int32)) = (0 : Int32) then p0_2 else p0_3), rv r_34, rv r_42, rv r_53, rv r_68, rv b86, iv (((p0_4.toUInt32 >>> ((3 : Int32) &&& 31).toUInt32).toInt32) &&& (7 : Int32)), .unset, .unset] [(.int (if (p0_4 &&& (4 : Int32)) = (0 : Int32) then p0_2 else p0_3)), (.ref r_68), (.ref r_42), (.ref b148), (.ref b148)])) rfl (by rw [hml]; rfl) (Steps.refl _) (a := b148) (argsL := [(.ref r_42), (.ref r_68), (.int (if (p0_4 &&& (4 : Int32)) = (0 : Int32) then p0_2 else p0_3))]) (rest := [(.ref b148)]) (lenOf pd_6 rfl) rfl (by show 2 * 0 + _ ≤ _; exact Nat.le_of_eq rfl) (hb hby at_265) (fun _ _ => ⟨rfl, e148, (by decide : 26 + 0 ≤ _), (by decide : 54 + 0 ≤ _)⟩)
        dsimp only [Pt.U, Pt.locs, Pt.cells, Pt.slots] at X176 l176 y176 z176 st176 hQ176
        rw [l176, y176, z176] at X176
        obtain ⟨rfl, N176q, K176q, hq176_0, hq176_1, hq176_2⟩ := hQ176
        have N178 := Fr.app N112 N176q
        have CS179 : CHr Z consts_1 T68.vm h148 T68.vm (T176.heap) := (CHr.keep K176q (allS (P := fun x => Safe Z consts_1 T68.vm _ x) (Safe.exa hZ.alike A148 (by decide) (by decide)) all0) CR171.1)
        have CR180 := CR171.trans CS179
        have K181 : Keep h0 T176.heap [] := (K172).trans K176q (allS (P := fun x => x ∈ [] ∨ h0.size ≤ x) (Or.inr bz169) all0)
        have f183 := (Nat.le_trans f177 K176q.1)
        obtain ⟨_, _, ⟨T182, L182, k182, n182⟩, -, X182, ⟨Lc182, hQ182, l182, y182, z182⟩, st182⟩ := Jvm.LawKit.callS X176 hx (y := MN11) hown (mvT hZ wo55) (mvT hZ wo56) (mvT hZ wo2) (mvT hZ wo57) (by decide) (backOf (W := 0) (rm11 l Z a0 hw [] tla ta0 ta1 tlb tb0 tb1 (T176.heap) n0 f183 (h3tla : tla = 0 ∨ tla = 1 ∨ tla = 2) (h3tlb : tlb = 0 ∨ tlb = 1 ∨ tlb = 2)) hZ wo57 wo2 (by decide) (by decide)) (g := (mkF m 282 #[.val (.long p0_0), .second, .val (.long p0_1), .second, iv p0_2, iv p0_3, iv p0_4, iv tla, iv ta0, iv ta1, .val (.long (if (p0_4 &&& (1 : Int32)) = (0 : Int32) then p0_0 else ((p0_0.toUInt64 >>> ((18 : Int32) &&& 0x3f).toInt64.toUInt64).toInt64))), .second, iv tlb, iv tb0, iv tb1, iv bla, iv ba0, iv ba1, .val (.long (if (p0_4 &&& (2 : Int32)) = (0 : Int32) then p0_1 else ((p0_1.toUInt64 >>> ((18 : Int32) &&& 0x3f).toInt64.toUInt64).toInt64))), .second, iv blb, iv bb0, iv bb1, iv (if (p0_4 &&& (4 : Int32)) = (0 : Int32) then p0_2 else p0_3), rv r_34, rv r_42, rv r_53, rv r_68, rv b86, iv (((p0_4.toUInt32 >>> ((3 : Int32) &&& 31).toUInt32).toInt32) &&& (7 : Int32)), rv b148, .unset] [(.int tb1), (.int tb0), (.int tlb), (.int ta1), (.int ta0), (.int tla)])) rfl (by rw [hml]; rfl) (argsL := [(.int tla), (.int ta0), (.int ta1), (.int tlb), (.int tb0), (.int tb1)]) (rest := []) (lenOf pd_2 rfl) rfl (by show 2 * 0 + _ ≤ _; exact Nat.le_of_eq rfl) (hb hby at_282) (fun _ _ => ⟨rfl, rfl, (by decide : 26 + 0 ≤ _), (by decide : 54 + 0 ≤ _)⟩)
        dsimp only [Pt.U, Pt.locs, Pt.cells, Pt.slots] at X182 l182 y182 z182 st182 hQ182
        rw [l182, y182, z182] at X182
        obtain ⟨rfl, N182q, K182q⟩ := hQ182
        have N184 := Fr.app N178 N182q
        have pre185 : ∀ t, Steps p.tables e below (T182.setTop (mkF m 285 #[.val (.long p0_0), .second, .val (.long p0_1), .second, iv p0_2, iv p0_3, iv p0_4, iv tla, iv ta0, iv ta1, .val (.long (if (p0_4 &&& (1 : Int32)) = (0 : Int32) then p0_0 else ((p0_0.toUInt64 >>> ((18 : Int32) &&& 0x3f).toInt64.toUInt64).toInt64))), .second, iv tlb, iv tb0, iv tb1, iv bla, iv ba0, iv ba1, .val (.long (if (p0_4 &&& (2 : Int32)) = (0 : Int32) then p0_1 else ((p0_1.toUInt64 >>> ((18 : Int32) &&& 0x3f).toInt64.toUInt64).toInt64))), .second, iv blb, iv bb0, iv bb1, iv (if (p0_4 &&& (4 : Int32)) = (0 : Int32) then p0_2 else p0_3), rv r_34, rv r_42, rv r_53, rv r_68, rv b86, iv (((p0_4.toUInt32 >>> ((3 : Int32) &&& 31).toUInt32).toInt32) &&& (7 : Int32)), rv b148, .unset] [(.int (if (own_bl tla ta0 ta1) = (own_bl tlb tb0 tb1) then (1 : Int32) else (0 : Int32)))])) t → Steps p.tables e below (s₁.setTop (entryFrame m #[(.long p0_0), (.long p0_1), (.int p0_2), (.int p0_3), (.int p0_4)] maxLocals)) t := by
          intro t_ k_
          refine pre132 _ ?_
          show Steps p.tables e below (T110.setTop (mkF m 242 #[.val (.long p0_0), .second, .val (.long p0_1), .second, iv p0_2, iv p0_3, iv p0_4, iv tla, iv ta0, iv ta1, .val (.long (if (p0_4 &&& (1 : Int32)) = (0 : Int32) then p0_0 else ((p0_0.toUInt64 >>> ((18 : Int32) &&& 0x3f).toInt64.toUInt64).toInt64))), .second, iv tlb, iv tb0, iv tb1, iv bla, iv ba0, iv ba1, .val (.long (if (p0_4 &&& (2 : Int32)) = (0 : Int32) then p0_1 else ((p0_1.toUInt64 >>> ((18 : Int32) &&& 0x3f).toInt64.toUInt64).toInt64))), .second, iv blb, iv bb0, iv bb1, iv (if (p0_4 &&& (4 : Int32)) = (0 : Int32) then p0_2 else p0_3), rv r_34, rv r_42, rv r_53, rv r_68, rv b86, iv (((p0_4.toUInt32 >>> ((3 : Int32) &&& 31).toUInt32).toInt32) &&& (7 : Int32)), .unset, .unset] [(.int (3 : Int32)), (.int (((p0_4.toUInt32 >>> ((3 : Int32) &&& 31).toUInt32).toInt32) &&& (7 : Int32)))])) _
          refine XS.icmpYes X110.here hx rfl (pc0 := 242) (pc' := 255) rfl (hb hby at_242) rfl (feq hc242_131).2 (by decide) (by decide) ?_
          show Steps p.tables e below (T110.setTop (mkF m 255 #[.val (.long p0_0), .second, .val (.long p0_1), .second, iv p0_2, iv p0_3, iv p0_4, iv tla, iv ta0, iv ta1, .val (.long (if (p0_4 &&& (1 : Int32)) = (0 : Int32) then p0_0 else ((p0_0.toUInt64 >>> ((18 : Int32) &&& 0x3f).toInt64.toUInt64).toInt64))), .second, iv tlb, iv tb0, iv tb1, iv bla, iv ba0, iv ba1, .val (.long (if (p0_4 &&& (2 : Int32)) = (0 : Int32) then p0_1 else ((p0_1.toUInt64 >>> ((18 : Int32) &&& 0x3f).toInt64.toUInt64).toInt64))), .second, iv blb, iv bb0, iv bb1, iv (if (p0_4 &&& (4 : Int32)) = (0 : Int32) then p0_2 else p0_3), rv r_34, rv r_42, rv r_53, rv r_68, rv b86, iv (((p0_4.toUInt32 >>> ((3 : Int32) &&& 31).toUInt32).toInt32) &&& (7 : Int32)), .unset, .unset] [])) _
          refine st148 _ ?_
          show Steps p.tables e below (T148.setTop (mkF m 258 #[.val (.long p0_0), .second, .val (.long p0_1), .second, iv p0_2, iv p0_3, iv p0_4, iv tla, iv ta0, iv ta1, .val (.long (if (p0_4 &&& (1 : Int32)) = (0 : Int32) then p0_0 else ((p0_0.toUInt64 >>> ((18 : Int32) &&& 0x3f).toInt64.toUInt64).toInt64))), .second, iv tlb, iv tb0, iv tb1, iv bla, iv ba0, iv ba1, .val (.long (if (p0_4 &&& (2 : Int32)) = (0 : Int32) then p0_1 else ((p0_1.toUInt64 >>> ((18 : Int32) &&& 0x3f).toInt64.toUInt64).toInt64))), .second, iv blb, iv bb0, iv bb1, iv (if (p0_4 &&& (4 : Int32)) = (0 : Int32) then p0_2 else p0_3), rv r_34, rv r_42, rv r_53, rv r_68, rv b86, iv (((p0_4.toUInt32 >>> ((3 : Int32) &&& 31).toUInt32).toInt32) &&& (7 : Int32)), .unset, .unset] [(.ref b148)])) _
          refine XS.dup X148.here hx rfl (hb hby at_258) rfl rfl ?_
          show Steps p.tables e below (T148.setTop (mkF m 259 #[.val (.long p0_0), .second, .val (.long p0_1), .second, iv p0_2, iv p0_3, iv p0_4, iv tla, iv ta0, iv ta1, .val (.long (if (p0_4 &&& (1 : Int32)) = (0 : Int32) then p0_0 else ((p0_0.toUInt64 >>> ((18 : Int32) &&& 0x3f).toInt64.toUInt64).toInt64))), .second, iv tlb, iv tb0, iv tb1, iv bla, iv ba0, iv ba1, .val (.long (if (p0_4 &&& (2 : Int32)) = (0 : Int32) then p0_1 else ((p0_1.toUInt64 >>> ((18 : Int32) &&& 0x3f).toInt64.toUInt64).toInt64))), .second, iv blb, iv bb0, iv bb1, iv (if (p0_4 &&& (4 : Int32)) = (0 : Int32) then p0_2 else p0_3), rv r_34, rv r_42, rv r_53, rv r_68, rv b86, iv (((p0_4.toUInt32 >>> ((3 : Int32) &&& 31).toUInt32).toInt32) &&& (7 : Int32)), .unset, .unset] [(.ref b148), (.ref b148)])) _
          refine XS.aload X148.here hx rfl (hb hby at_259) rfl rfl ?_
          show Steps p.tables e below (T148.setTop (mkF m 261 #[.val (.long p0_0), .second, .val (.long p0_1), .second, iv p0_2, iv p0_3, iv p0_4, iv tla, iv ta0, iv ta1, .val (.long (if (p0_4 &&& (1 : Int32)) = (0 : Int32) then p0_0 else ((p0_0.toUInt64 >>> ((18 : Int32) &&& 0x3f).toInt64.toUInt64).toInt64))), .second, iv tlb, iv tb0, iv tb1, iv bla, iv ba0, iv ba1, .val (.long (if (p0_4 &&& (2 : Int32)) = (0 : Int32) then p0_1 else ((p0_1.toUInt64 >>> ((18 : Int32) &&& 0x3f).toInt64.toUInt64).toInt64))), .second, iv blb, iv bb0, iv bb1, iv (if (p0_4 &&& (4 : Int32)) = (0 : Int32) then p0_2 else p0_3), rv r_34, rv r_42, rv r_53, rv r_68, rv b86, iv (((p0_4.toUInt32 >>> ((3 : Int32) &&& 31).toUInt32).toInt32) &&& (7 : Int32)), .unset, .unset] [(.ref r_42), (.ref b148), (.ref b148)])) _
          refine XS.aload X148.here hx rfl (hb hby at_261) rfl rfl ?_
          show Steps p.tables e below (T148.setTop (mkF m 263 #[.val (.long p0_0), .second, .val (.long p0_1), .second, iv p0_2, iv p0_3, iv p0_4, iv tla, iv ta0, iv ta1, .val (.long (if (p0_4 &&& (1 : Int32)) = (0 : Int32) then p0_0 else ((p0_0.toUInt64 >>> ((18 : Int32) &&& 0x3f).toInt64.toUInt64).toInt64))), .second, iv tlb, iv tb0, iv tb1, iv bla, iv ba0, iv ba1, .val (.long (if (p0_4 &&& (2 : Int32)) = (0 : Int32) then p0_1 else ((p0_1.toUInt64 >>> ((18 : Int32) &&& 0x3f).toInt64.toUInt64).toInt64))), .second, iv blb, iv bb0, iv bb1, iv (if (p0_4 &&& (4 : Int32)) = (0 : Int32) then p0_2 else p0_3), rv r_34, rv r_42, rv r_53, rv r_68, rv b86, iv (((p0_4.toUInt32 >>> ((3 : Int32) &&& 31).toUInt32).toInt32) &&& (7 : Int32)), .unset, .unset] [(.ref r_68), (.ref r_42), (.ref b148), (.ref b148)])) _
          refine XS.iload X148.here hx rfl (hb hby at_263) rfl ?_
          show Steps p.tables e below (T148.setTop (mkF m 265 #[.val (.long p0_0), .second, .val (.long p0_1), .second, iv p0_2, iv p0_3, iv p0_4, iv tla, iv ta0, iv ta1, .val (.long (if (p0_4 &&& (1 : Int32)) = (0 : Int32) then p0_0 else ((p0_0.toUInt64 >>> ((18 : Int32) &&& 0x3f).toInt64.toUInt64).toInt64))), .second, iv tlb, iv tb0, iv tb1, iv bla, iv ba0, iv ba1, .val (.long (if (p0_4 &&& (2 : Int32)) = (0 : Int32) then p0_1 else ((p0_1.toUInt64 >>> ((18 : Int32) &&& 0x3f).toInt64.toUInt64).toInt64))), .second, iv blb, iv bb0, iv bb1, iv (if (p0_4 &&& (4 : Int32)) = (0 : Int32) then p0_2 else p0_3), rv r_34, rv r_42, rv r_53, rv r_68, rv b86, iv (((p0_4.toUInt32 >>> ((3 : Int32) &&& 31).toUInt32).toInt32) &&& (7 : Int32)), .unset, .unset] [(.int (if (p0_4 &&& (4 : Int32)) = (0 : Int32) then p0_2 else p0_3)), (.ref r_68), (.ref r_42), (.ref b148), (.ref b148)])) _
          refine st176.trans ?_
          show Steps p.tables e below (T176.setTop (mkF m 268 #[.val (.long p0_0), .second, .val (.long p0_1), .second, iv p0_2, iv p0_3, iv p0_4, iv tla, iv ta0, iv ta1, .val (.long (if (p0_4 &&& (1 : Int32)) = (0 : Int32) then p0_0 else ((p0_0.toUInt64 >>> ((18 : Int32) &&& 0x3f).toInt64.toUInt64).toInt64))), .second, iv tlb, iv tb0, iv tb1, iv bla, iv ba0, iv ba1, .val (.long (if (p0_4 &&& (2 : Int32)) = (0 : Int32) then p0_1 else ((p0_1.toUInt64 >>> ((18 : Int32) &&& 0x3f).toInt64.toUInt64).toInt64))), .second, iv blb, iv bb0, iv bb1, iv (if (p0_4 &&& (4 : Int32)) = (0 : Int32) then p0_2 else p0_3), rv r_34, rv r_42, rv r_53, rv r_68, rv b86, iv (((p0_4.toUInt32 >>> ((3 : Int32) &&& 31).toUInt32).toInt32) &&& (7 : Int32)), .unset, .unset] [(.ref b148)])) _
          refine XS.astore X176.here hx rfl (hb hby at_268) rfl rfl (l' := #[.val (.long p0_0), .second, .val (.long p0_1), .second, iv p0_2, iv p0_3, iv p0_4, iv tla, iv ta0, iv ta1, .val (.long (if (p0_4 &&& (1 : Int32)) = (0 : Int32) then p0_0 else ((p0_0.toUInt64 >>> ((18 : Int32) &&& 0x3f).toInt64.toUInt64).toInt64))), .second, iv tlb, iv tb0, iv tb1, iv bla, iv ba0, iv ba1, .val (.long (if (p0_4 &&& (2 : Int32)) = (0 : Int32) then p0_1 else ((p0_1.toUInt64 >>> ((18 : Int32) &&& 0x3f).toInt64.toUInt64).toInt64))), .second, iv blb, iv bb0, iv bb1, iv (if (p0_4 &&& (4 : Int32)) = (0 : Int32) then p0_2 else p0_3), rv r_34, rv r_42, rv r_53, rv r_68, rv b86, iv (((p0_4.toUInt32 >>> ((3 : Int32) &&& 31).toUInt32).toInt32) &&& (7 : Int32)), rv b148, .unset]) rfl ?_
          show Steps p.tables e below (T176.setTop (mkF m 270 #[.val (.long p0_0), .second, .val (.long p0_1), .second, iv p0_2, iv p0_3, iv p0_4, iv tla, iv ta0, iv ta1, .val (.long (if (p0_4 &&& (1 : Int32)) = (0 : Int32) then p0_0 else ((p0_0.toUInt64 >>> ((18 : Int32) &&& 0x3f).toInt64.toUInt64).toInt64))), .second, iv tlb, iv tb0, iv tb1, iv bla, iv ba0, iv ba1, .val (.long (if (p0_4 &&& (2 : Int32)) = (0 : Int32) then p0_1 else ((p0_1.toUInt64 >>> ((18 : Int32) &&& 0x3f).toInt64.toUInt64).toInt64))), .second, iv blb, iv bb0, iv bb1, iv (if (p0_4 &&& (4 : Int32)) = (0 : Int32) then p0_2 else p0_3), rv r_34, rv r_42, rv r_53, rv r_68, rv b86, iv (((p0_4.toUInt32 >>> ((3 : Int32) &&& 31).toUInt32).toInt32) &&& (7 : Int32)), rv b148, .unset] [])) _
          refine XS.iload X176.here hx rfl (hb hby at_270) rfl ?_
          show Steps p.tables e below (T176.setTop (mkF m 272 #[.val (.long p0_0), .second, .val (.long p0_1), .second, iv p0_2, iv p0_3, iv p0_4, iv tla, iv ta0, iv ta1, .val (.long (if (p0_4 &&& (1 : Int32)) = (0 : Int32) then p0_0 else ((p0_0.toUInt64 >>> ((18 : Int32) &&& 0x3f).toInt64.toUInt64).toInt64))), .second, iv tlb, iv tb0, iv tb1, iv bla, iv ba0, iv ba1, .val (.long (if (p0_4 &&& (2 : Int32)) = (0 : Int32) then p0_1 else ((p0_1.toUInt64 >>> ((18 : Int32) &&& 0x3f).toInt64.toUInt64).toInt64))), .second, iv blb, iv bb0, iv bb1, iv (if (p0_4 &&& (4 : Int32)) = (0 : Int32) then p0_2 else p0_3), rv r_34, rv r_42, rv r_53, rv r_68, rv b86, iv (((p0_4.toUInt32 >>> ((3 : Int32) &&& 31).toUInt32).toInt32) &&& (7 : Int32)), rv b148, .unset] [(.int tla)])) _
          refine XS.iload X176.here hx rfl (hb hby at_272) rfl ?_
          show Steps p.tables e below (T176.setTop (mkF m 274 #[.val (.long p0_0), .second, .val (.long p0_1), .second, iv p0_2, iv p0_3, iv p0_4, iv tla, iv ta0, iv ta1, .val (.long (if (p0_4 &&& (1 : Int32)) = (0 : Int32) then p0_0 else ((p0_0.toUInt64 >>> ((18 : Int32) &&& 0x3f).toInt64.toUInt64).toInt64))), .second, iv tlb, iv tb0, iv tb1, iv bla, iv ba0, iv ba1, .val (.long (if (p0_4 &&& (2 : Int32)) = (0 : Int32) then p0_1 else ((p0_1.toUInt64 >>> ((18 : Int32) &&& 0x3f).toInt64.toUInt64).toInt64))), .second, iv blb, iv bb0, iv bb1, iv (if (p0_4 &&& (4 : Int32)) = (0 : Int32) then p0_2 else p0_3), rv r_34, rv r_42, rv r_53, rv r_68, rv b86, iv (((p0_4.toUInt32 >>> ((3 : Int32) &&& 31).toUInt32).toInt32) &&& (7 : Int32)), rv b148, .unset] [(.int ta0), (.int tla)])) _
          refine XS.iload X176.here hx rfl (hb hby at_274) rfl ?_
          show Steps p.tables e below (T176.setTop (mkF m 276 #[.val (.long p0_0), .second, .val (.long p0_1), .second, iv p0_2, iv p0_3, iv p0_4, iv tla, iv ta0, iv ta1, .val (.long (if (p0_4 &&& (1 : Int32)) = (0 : Int32) then p0_0 else ((p0_0.toUInt64 >>> ((18 : Int32) &&& 0x3f).toInt64.toUInt64).toInt64))), .second, iv tlb, iv tb0, iv tb1, iv bla, iv ba0, iv ba1, .val (.long (if (p0_4 &&& (2 : Int32)) = (0 : Int32) then p0_1 else ((p0_1.toUInt64 >>> ((18 : Int32) &&& 0x3f).toInt64.toUInt64).toInt64))), .second, iv blb, iv bb0, iv bb1, iv (if (p0_4 &&& (4 : Int32)) = (0 : Int32) then p0_2 else p0_3), rv r_34, rv r_42, rv r_53, rv r_68, rv b86, iv (((p0_4.toUInt32 >>> ((3 : Int32) &&& 31).toUInt32).toInt32) &&& (7 : Int32)), rv b148, .unset] [(.int ta1), (.int ta0), (.int tla)])) _
          refine XS.iload X176.here hx rfl (hb hby at_276) rfl ?_
          show Steps p.tables e below (T176.setTop (mkF m 278 #[.val (.long p0_0), .second, .val (.long p0_1), .second, iv p0_2, iv p0_3, iv p0_4, iv tla, iv ta0, iv ta1, .val (.long (if (p0_4 &&& (1 : Int32)) = (0 : Int32) then p0_0 else ((p0_0.toUInt64 >>> ((18 : Int32) &&& 0x3f).toInt64.toUInt64).toInt64))), .second, iv tlb, iv tb0, iv tb1, iv bla, iv ba0, iv ba1, .val (.long (if (p0_4 &&& (2 : Int32)) = (0 : Int32) then p0_1 else ((p0_1.toUInt64 >>> ((18 : Int32) &&& 0x3f).toInt64.toUInt64).toInt64))), .second, iv blb, iv bb0, iv bb1, iv (if (p0_4 &&& (4 : Int32)) = (0 : Int32) then p0_2 else p0_3), rv r_34, rv r_42, rv r_53, rv r_68, rv b86, iv (((p0_4.toUInt32 >>> ((3 : Int32) &&& 31).toUInt32).toInt32) &&& (7 : Int32)), rv b148, .unset] [(.int tlb), (.int ta1), (.int ta0), (.int tla)])) _
          refine XS.iload X176.here hx rfl (hb hby at_278) rfl ?_
          show Steps p.tables e below (T176.setTop (mkF m 280 #[.val (.long p0_0), .second, .val (.long p0_1), .second, iv p0_2, iv p0_3, iv p0_4, iv tla, iv ta0, iv ta1, .val (.long (if (p0_4 &&& (1 : Int32)) = (0 : Int32) then p0_0 else ((p0_0.toUInt64 >>> ((18 : Int32) &&& 0x3f).toInt64.toUInt64).toInt64))), .second, iv tlb, iv tb0, iv tb1, iv bla, iv ba0, iv ba1, .val (.long (if (p0_4 &&& (2 : Int32)) = (0 : Int32) then p0_1 else ((p0_1.toUInt64 >>> ((18 : Int32) &&& 0x3f).toInt64.toUInt64).toInt64))), .second, iv blb, iv bb0, iv bb1, iv (if (p0_4 &&& (4 : Int32)) = (0 : Int32) then p0_2 else p0_3), rv r_34, rv r_42, rv r_53, rv r_68, rv b86, iv (((p0_4.toUInt32 >>> ((3 : Int32) &&& 31).toUInt32).toInt32) &&& (7 : Int32)), rv b148, .unset] [(.int tb0), (.int tlb), (.int ta1), (.int ta0), (.int tla)])) _
          refine XS.iload X176.here hx rfl (hb hby at_280) rfl ?_
          show Steps p.tables e below (T176.setTop (mkF m 282 #[.val (.long p0_0), .second, .val (.long p0_1), .second, iv p0_2, iv p0_3, iv p0_4, iv tla, iv ta0, iv ta1, .val (.long (if (p0_4 &&& (1 : Int32)) = (0 : Int32) then p0_0 else ((p0_0.toUInt64 >>> ((18 : Int32) &&& 0x3f).toInt64.toUInt64).toInt64))), .second, iv tlb, iv tb0, iv tb1, iv bla, iv ba0, iv ba1, .val (.long (if (p0_4 &&& (2 : Int32)) = (0 : Int32) then p0_1 else ((p0_1.toUInt64 >>> ((18 : Int32) &&& 0x3f).toInt64.toUInt64).toInt64))), .second, iv blb, iv bb0, iv bb1, iv (if (p0_4 &&& (4 : Int32)) = (0 : Int32) then p0_2 else p0_3), rv r_34, rv r_42, rv r_53, rv r_68, rv b86, iv (((p0_4.toUInt32 >>> ((3 : Int32) &&& 31).toUInt32).toInt32) &&& (7 : Int32)), rv b148, .unset] [(.int tb1), (.int tb0), (.int tlb), (.int ta1), (.int ta0), (.int tla)])) _
          refine st182 _ ?_
          exact k_
        by_cases hb186 : (own_bl tla ta0 ta1) = (own_bl tlb tb0 tb1)
        · skip
          have q187 : (if (own_bl tla ta0 ta1) = (own_bl tlb tb0 tb1) then (1 : Int32) else (0 : Int32)) = (1 : Int32) := if_pos hb186
          obtain ⟨_, _, ⟨T188, L188, k188, n188⟩, -, X188, ⟨Lc188, hQ188, l188, y188, z188⟩, st188⟩ := Jvm.LawKit.callS X182 hx (y := MN11) hown (mvT hZ wo55) (mvT hZ wo56) (mvT hZ wo2) (mvT hZ wo57) (by decide) (backOf (W := 0) (rm11 l Z a0 hw [] bla ba0 ba1 blb bb0 bb1 (T176.heap) n0 f183 (h3bla : bla = 0 ∨ bla = 1 ∨ bla = 2) (h3blb : blb = 0 ∨ blb = 1 ∨ blb = 2)) hZ wo57 wo2 (by decide) (by decide)) (g := (mkF m 300 #[.val (.long p0_0), .second, .val (.long p0_1), .second, iv p0_2, iv p0_3, iv p0_4, iv tla, iv ta0, iv ta1, .val (.long (if (p0_4 &&& (1 : Int32)) = (0 : Int32) then p0_0 else ((p0_0.toUInt64 >>> ((18 : Int32) &&& 0x3f).toInt64.toUInt64).toInt64))), .second, iv tlb, iv tb0, iv tb1, iv bla, iv ba0, iv ba1, .val (.long (if (p0_4 &&& (2 : Int32)) = (0 : Int32) then p0_1 else ((p0_1.toUInt64 >>> ((18 : Int32) &&& 0x3f).toInt64.toUInt64).toInt64))), .second, iv blb, iv bb0, iv bb1, iv (if (p0_4 &&& (4 : Int32)) = (0 : Int32) then p0_2 else p0_3), rv r_34, rv r_42, rv r_53, rv r_68, rv b86, iv (((p0_4.toUInt32 >>> ((3 : Int32) &&& 31).toUInt32).toInt32) &&& (7 : Int32)), rv b148, .unset] [(.int bb1), (.int bb0), (.int blb), (.int ba1), (.int ba0), (.int bla)])) rfl (by rw [hml]; rfl) (argsL := [(.int bla), (.int ba0), (.int ba1), (.int blb), (.int bb0), (.int bb1)]) (rest := []) (lenOf pd_2 rfl) rfl (by show 2 * 0 + _ ≤ _; exact Nat.le_of_eq rfl) (hb hby at_300) (fun _ _ => ⟨rfl, K182q, (by decide : 26 + 0 ≤ _), (by decide : 54 + 0 ≤ _)⟩)
          dsimp only [Pt.U, Pt.locs, Pt.cells, Pt.slots] at X188 l188 y188 z188 st188 hQ188
          rw [l188, y188, z188] at X188
          obtain ⟨rfl, N188q, K188q⟩ := hQ188
          have N189 := Fr.app N184 N188q
          have pre190 : ∀ t, Steps p.tables e below (T188.setTop (mkF m 303 #[.val (.long p0_0), .second, .val (.long p0_1), .second, iv p0_2, iv p0_3, iv p0_4, iv tla, iv ta0, iv ta1, .val (.long (if (p0_4 &&& (1 : Int32)) = (0 : Int32) then p0_0 else ((p0_0.toUInt64 >>> ((18 : Int32) &&& 0x3f).toInt64.toUInt64).toInt64))), .second, iv tlb, iv tb0, iv tb1, iv bla, iv ba0, iv ba1, .val (.long (if (p0_4 &&& (2 : Int32)) = (0 : Int32) then p0_1 else ((p0_1.toUInt64 >>> ((18 : Int32) &&& 0x3f).toInt64.toUInt64).toInt64))), .second, iv blb, iv bb0, iv bb1, iv (if (p0_4 &&& (4 : Int32)) = (0 : Int32) then p0_2 else p0_3), rv r_34, rv r_42, rv r_53, rv r_68, rv b86, iv (((p0_4.toUInt32 >>> ((3 : Int32) &&& 31).toUInt32).toInt32) &&& (7 : Int32)), rv b148, .unset] [(.int (if (own_bl bla ba0 ba1) = (own_bl blb bb0 bb1) then (1 : Int32) else (0 : Int32)))])) t → Steps p.tables e below (s₁.setTop (entryFrame m #[(.long p0_0), (.long p0_1), (.int p0_2), (.int p0_3), (.int p0_4)] maxLocals)) t := by
            intro t_ k_
            refine pre185 _ ?_
            show Steps p.tables e below (T182.setTop (mkF m 285 #[.val (.long p0_0), .second, .val (.long p0_1), .second, iv p0_2, iv p0_3, iv p0_4, iv tla, iv ta0, iv ta1, .val (.long (if (p0_4 &&& (1 : Int32)) = (0 : Int32) then p0_0 else ((p0_0.toUInt64 >>> ((18 : Int32) &&& 0x3f).toInt64.toUInt64).toInt64))), .second, iv tlb, iv tb0, iv tb1, iv bla, iv ba0, iv ba1, .val (.long (if (p0_4 &&& (2 : Int32)) = (0 : Int32) then p0_1 else ((p0_1.toUInt64 >>> ((18 : Int32) &&& 0x3f).toInt64.toUInt64).toInt64))), .second, iv blb, iv bb0, iv bb1, iv (if (p0_4 &&& (4 : Int32)) = (0 : Int32) then p0_2 else p0_3), rv r_34, rv r_42, rv r_53, rv r_68, rv b86, iv (((p0_4.toUInt32 >>> ((3 : Int32) &&& 31).toUInt32).toInt32) &&& (7 : Int32)), rv b148, .unset] [(.int (if (own_bl tla ta0 ta1) = (own_bl tlb tb0 tb1) then (1 : Int32) else (0 : Int32)))])) _
            rw [q187]
            show Steps p.tables e below (T182.setTop (mkF m 285 #[.val (.long p0_0), .second, .val (.long p0_1), .second, iv p0_2, iv p0_3, iv p0_4, iv tla, iv ta0, iv ta1, .val (.long (if (p0_4 &&& (1 : Int32)) = (0 : Int32) then p0_0 else ((p0_0.toUInt64 >>> ((18 : Int32) &&& 0x3f).toInt64.toUInt64).toInt64))), .second, iv tlb, iv tb0, iv tb1, iv bla, iv ba0, iv ba1, .val (.long (if (p0_4 &&& (2 : Int32)) = (0 : Int32) then p0_1 else ((p0_1.toUInt64 >>> ((18 : Int32) &&& 0x3f).toInt64.toUInt64).toInt64))), .second, iv blb, iv bb0, iv bb1, iv (if (p0_4 &&& (4 : Int32)) = (0 : Int32) then p0_2 else p0_3), rv r_34, rv r_42, rv r_53, rv r_68, rv b86, iv (((p0_4.toUInt32 >>> ((3 : Int32) &&& 31).toUInt32).toInt32) &&& (7 : Int32)), rv b148, .unset] [(.int (1 : Int32))])) _
            show Steps p.tables e below (T182.setTop (mkF m 285 #[.val (.long p0_0), .second, .val (.long p0_1), .second, iv p0_2, iv p0_3, iv p0_4, iv tla, iv ta0, iv ta1, .val (.long (if (p0_4 &&& (1 : Int32)) = (0 : Int32) then p0_0 else ((p0_0.toUInt64 >>> ((18 : Int32) &&& 0x3f).toInt64.toUInt64).toInt64))), .second, iv tlb, iv tb0, iv tb1, iv bla, iv ba0, iv ba1, .val (.long (if (p0_4 &&& (2 : Int32)) = (0 : Int32) then p0_1 else ((p0_1.toUInt64 >>> ((18 : Int32) &&& 0x3f).toInt64.toUInt64).toInt64))), .second, iv blb, iv bb0, iv bb1, iv (if (p0_4 &&& (4 : Int32)) = (0 : Int32) then p0_2 else p0_3), rv r_34, rv r_42, rv r_53, rv r_68, rv b86, iv (((p0_4.toUInt32 >>> ((3 : Int32) &&& 31).toUInt32).toInt32) &&& (7 : Int32)), rv b148, .unset] [(.int (1 : Int32))])) _
            refine XS.ifNo X182.here hx rfl (hb hby at_285) rfl ((if0 _ _).trans (feq (by decide : ¬ ((1 : Int32) = (0 : Int32)))).1) ?_
            show Steps p.tables e below (T182.setTop (mkF m 288 #[.val (.long p0_0), .second, .val (.long p0_1), .second, iv p0_2, iv p0_3, iv p0_4, iv tla, iv ta0, iv ta1, .val (.long (if (p0_4 &&& (1 : Int32)) = (0 : Int32) then p0_0 else ((p0_0.toUInt64 >>> ((18 : Int32) &&& 0x3f).toInt64.toUInt64).toInt64))), .second, iv tlb, iv tb0, iv tb1, iv bla, iv ba0, iv ba1, .val (.long (if (p0_4 &&& (2 : Int32)) = (0 : Int32) then p0_1 else ((p0_1.toUInt64 >>> ((18 : Int32) &&& 0x3f).toInt64.toUInt64).toInt64))), .second, iv blb, iv bb0, iv bb1, iv (if (p0_4 &&& (4 : Int32)) = (0 : Int32) then p0_2 else p0_3), rv r_34, rv r_42, rv r_53, rv r_68, rv b86, iv (((p0_4.toUInt32 >>> ((3 : Int32) &&& 31).toUInt32).toInt32) &&& (7 : Int32)), rv b148, .unset] [])) _
            refine XS.iload X182.here hx rfl (hb hby at_288) rfl ?_
            show Steps p.tables e below (T182.setTop (mkF m 290 #[.val (.long p0_0), .second, .val (.long p0_1), .second, iv p0_2, iv p0_3, iv p0_4, iv tla, iv ta0, iv ta1, .val (.long (if (p0_4 &&& (1 : Int32)) = (0 : Int32) then p0_0 else ((p0_0.toUInt64 >>> ((18 : Int32) &&& 0x3f).toInt64.toUInt64).toInt64))), .second, iv tlb, iv tb0, iv tb1, iv bla, iv ba0, iv ba1, .val (.long (if (p0_4 &&& (2 : Int32)) = (0 : Int32) then p0_1 else ((p0_1.toUInt64 >>> ((18 : Int32) &&& 0x3f).toInt64.toUInt64).toInt64))), .second, iv blb, iv bb0, iv bb1, iv (if (p0_4 &&& (4 : Int32)) = (0 : Int32) then p0_2 else p0_3), rv r_34, rv r_42, rv r_53, rv r_68, rv b86, iv (((p0_4.toUInt32 >>> ((3 : Int32) &&& 31).toUInt32).toInt32) &&& (7 : Int32)), rv b148, .unset] [(.int bla)])) _
            refine XS.iload X182.here hx rfl (hb hby at_290) rfl ?_
            show Steps p.tables e below (T182.setTop (mkF m 292 #[.val (.long p0_0), .second, .val (.long p0_1), .second, iv p0_2, iv p0_3, iv p0_4, iv tla, iv ta0, iv ta1, .val (.long (if (p0_4 &&& (1 : Int32)) = (0 : Int32) then p0_0 else ((p0_0.toUInt64 >>> ((18 : Int32) &&& 0x3f).toInt64.toUInt64).toInt64))), .second, iv tlb, iv tb0, iv tb1, iv bla, iv ba0, iv ba1, .val (.long (if (p0_4 &&& (2 : Int32)) = (0 : Int32) then p0_1 else ((p0_1.toUInt64 >>> ((18 : Int32) &&& 0x3f).toInt64.toUInt64).toInt64))), .second, iv blb, iv bb0, iv bb1, iv (if (p0_4 &&& (4 : Int32)) = (0 : Int32) then p0_2 else p0_3), rv r_34, rv r_42, rv r_53, rv r_68, rv b86, iv (((p0_4.toUInt32 >>> ((3 : Int32) &&& 31).toUInt32).toInt32) &&& (7 : Int32)), rv b148, .unset] [(.int ba0), (.int bla)])) _
            refine XS.iload X182.here hx rfl (hb hby at_292) rfl ?_
            show Steps p.tables e below (T182.setTop (mkF m 294 #[.val (.long p0_0), .second, .val (.long p0_1), .second, iv p0_2, iv p0_3, iv p0_4, iv tla, iv ta0, iv ta1, .val (.long (if (p0_4 &&& (1 : Int32)) = (0 : Int32) then p0_0 else ((p0_0.toUInt64 >>> ((18 : Int32) &&& 0x3f).toInt64.toUInt64).toInt64))), .second, iv tlb, iv tb0, iv tb1, iv bla, iv ba0, iv ba1, .val (.long (if (p0_4 &&& (2 : Int32)) = (0 : Int32) then p0_1 else ((p0_1.toUInt64 >>> ((18 : Int32) &&& 0x3f).toInt64.toUInt64).toInt64))), .second, iv blb, iv bb0, iv bb1, iv (if (p0_4 &&& (4 : Int32)) = (0 : Int32) then p0_2 else p0_3), rv r_34, rv r_42, rv r_53, rv r_68, rv b86, iv (((p0_4.toUInt32 >>> ((3 : Int32) &&& 31).toUInt32).toInt32) &&& (7 : Int32)), rv b148, .unset] [(.int ba1), (.int ba0), (.int bla)])) _
            refine XS.iload X182.here hx rfl (hb hby at_294) rfl ?_
            show Steps p.tables e below (T182.setTop (mkF m 296 #[.val (.long p0_0), .second, .val (.long p0_1), .second, iv p0_2, iv p0_3, iv p0_4, iv tla, iv ta0, iv ta1, .val (.long (if (p0_4 &&& (1 : Int32)) = (0 : Int32) then p0_0 else ((p0_0.toUInt64 >>> ((18 : Int32) &&& 0x3f).toInt64.toUInt64).toInt64))), .second, iv tlb, iv tb0, iv tb1, iv bla, iv ba0, iv ba1, .val (.long (if (p0_4 &&& (2 : Int32)) = (0 : Int32) then p0_1 else ((p0_1.toUInt64 >>> ((18 : Int32) &&& 0x3f).toInt64.toUInt64).toInt64))), .second, iv blb, iv bb0, iv bb1, iv (if (p0_4 &&& (4 : Int32)) = (0 : Int32) then p0_2 else p0_3), rv r_34, rv r_42, rv r_53, rv r_68, rv b86, iv (((p0_4.toUInt32 >>> ((3 : Int32) &&& 31).toUInt32).toInt32) &&& (7 : Int32)), rv b148, .unset] [(.int blb), (.int ba1), (.int ba0), (.int bla)])) _
            refine XS.iload X182.here hx rfl (hb hby at_296) rfl ?_
            show Steps p.tables e below (T182.setTop (mkF m 298 #[.val (.long p0_0), .second, .val (.long p0_1), .second, iv p0_2, iv p0_3, iv p0_4, iv tla, iv ta0, iv ta1, .val (.long (if (p0_4 &&& (1 : Int32)) = (0 : Int32) then p0_0 else ((p0_0.toUInt64 >>> ((18 : Int32) &&& 0x3f).toInt64.toUInt64).toInt64))), .second, iv tlb, iv tb0, iv tb1, iv bla, iv ba0, iv ba1, .val (.long (if (p0_4 &&& (2 : Int32)) = (0 : Int32) then p0_1 else ((p0_1.toUInt64 >>> ((18 : Int32) &&& 0x3f).toInt64.toUInt64).toInt64))), .second, iv blb, iv bb0, iv bb1, iv (if (p0_4 &&& (4 : Int32)) = (0 : Int32) then p0_2 else p0_3), rv r_34, rv r_42, rv r_53, rv r_68, rv b86, iv (((p0_4.toUInt32 >>> ((3 : Int32) &&& 31).toUInt32).toInt32) &&& (7 : Int32)), rv b148, .unset] [(.int bb0), (.int blb), (.int ba1), (.int ba0), (.int bla)])) _
            refine XS.iload X182.here hx rfl (hb hby at_298) rfl ?_
            show Steps p.tables e below (T182.setTop (mkF m 300 #[.val (.long p0_0), .second, .val (.long p0_1), .second, iv p0_2, iv p0_3, iv p0_4, iv tla, iv ta0, iv ta1, .val (.long (if (p0_4 &&& (1 : Int32)) = (0 : Int32) then p0_0 else ((p0_0.toUInt64 >>> ((18 : Int32) &&& 0x3f).toInt64.toUInt64).toInt64))), .second, iv tlb, iv tb0, iv tb1, iv bla, iv ba0, iv ba1, .val (.long (if (p0_4 &&& (2 : Int32)) = (0 : Int32) then p0_1 else ((p0_1.toUInt64 >>> ((18 : Int32) &&& 0x3f).toInt64.toUInt64).toInt64))), .second, iv blb, iv bb0, iv bb1, iv (if (p0_4 &&& (4 : Int32)) = (0 : Int32) then p0_2 else p0_3), rv r_34, rv r_42, rv r_53, rv r_68, rv b86, iv (((p0_4.toUInt32 >>> ((3 : Int32) &&& 31).toUInt32).toInt32) &&& (7 : Int32)), rv b148, .unset] [(.int bb1), (.int bb0), (.int blb), (.int ba1), (.int ba0), (.int bla)])) _
            refine st188 _ ?_
            exact k_
          by_cases hb191 : (own_bl bla ba0 ba1) = (own_bl blb bb0 bb1)
          · skip
            have q192 : (if (own_bl bla ba0 ba1) = (own_bl blb bb0 bb1) then (1 : Int32) else (0 : Int32)) = (1 : Int32) := if_pos hb191
            have pre194 : ∀ t, Steps p.tables e below (T188.setTop (mkF m 310 #[.val (.long p0_0), .second, .val (.long p0_1), .second, iv p0_2, iv p0_3, iv p0_4, iv tla, iv ta0, iv ta1, .val (.long (if (p0_4 &&& (1 : Int32)) = (0 : Int32) then p0_0 else ((p0_0.toUInt64 >>> ((18 : Int32) &&& 0x3f).toInt64.toUInt64).toInt64))), .second, iv tlb, iv tb0, iv tb1, iv bla, iv ba0, iv ba1, .val (.long (if (p0_4 &&& (2 : Int32)) = (0 : Int32) then p0_1 else ((p0_1.toUInt64 >>> ((18 : Int32) &&& 0x3f).toInt64.toUInt64).toInt64))), .second, iv blb, iv bb0, iv bb1, iv (if (p0_4 &&& (4 : Int32)) = (0 : Int32) then p0_2 else p0_3), rv r_34, rv r_42, rv r_53, rv r_68, rv b86, iv (((p0_4.toUInt32 >>> ((3 : Int32) &&& 31).toUInt32).toInt32) &&& (7 : Int32)), rv b148, .unset] [(.int (if (p0_4 &&& (4 : Int32)) = (0 : Int32) then p0_2 else p0_3)), (.int p0_2)])) t → Steps p.tables e below (s₁.setTop (entryFrame m #[(.long p0_0), (.long p0_1), (.int p0_2), (.int p0_3), (.int p0_4)] maxLocals)) t := by
              intro t_ k_
              refine pre190 _ ?_
              show Steps p.tables e below (T188.setTop (mkF m 303 #[.val (.long p0_0), .second, .val (.long p0_1), .second, iv p0_2, iv p0_3, iv p0_4, iv tla, iv ta0, iv ta1, .val (.long (if (p0_4 &&& (1 : Int32)) = (0 : Int32) then p0_0 else ((p0_0.toUInt64 >>> ((18 : Int32) &&& 0x3f).toInt64.toUInt64).toInt64))), .second, iv tlb, iv tb0, iv tb1, iv bla, iv ba0, iv ba1, .val (.long (if (p0_4 &&& (2 : Int32)) = (0 : Int32) then p0_1 else ((p0_1.toUInt64 >>> ((18 : Int32) &&& 0x3f).toInt64.toUInt64).toInt64))), .second, iv blb, iv bb0, iv bb1, iv (if (p0_4 &&& (4 : Int32)) = (0 : Int32) then p0_2 else p0_3), rv r_34, rv r_42, rv r_53, rv r_68, rv b86, iv (((p0_4.toUInt32 >>> ((3 : Int32) &&& 31).toUInt32).toInt32) &&& (7 : Int32)), rv b148, .unset] [(.int (if (own_bl bla ba0 ba1) = (own_bl blb bb0 bb1) then (1 : Int32) else (0 : Int32)))])) _
              rw [q192]
              show Steps p.tables e below (T188.setTop (mkF m 303 #[.val (.long p0_0), .second, .val (.long p0_1), .second, iv p0_2, iv p0_3, iv p0_4, iv tla, iv ta0, iv ta1, .val (.long (if (p0_4 &&& (1 : Int32)) = (0 : Int32) then p0_0 else ((p0_0.toUInt64 >>> ((18 : Int32) &&& 0x3f).toInt64.toUInt64).toInt64))), .second, iv tlb, iv tb0, iv tb1, iv bla, iv ba0, iv ba1, .val (.long (if (p0_4 &&& (2 : Int32)) = (0 : Int32) then p0_1 else ((p0_1.toUInt64 >>> ((18 : Int32) &&& 0x3f).toInt64.toUInt64).toInt64))), .second, iv blb, iv bb0, iv bb1, iv (if (p0_4 &&& (4 : Int32)) = (0 : Int32) then p0_2 else p0_3), rv r_34, rv r_42, rv r_53, rv r_68, rv b86, iv (((p0_4.toUInt32 >>> ((3 : Int32) &&& 31).toUInt32).toInt32) &&& (7 : Int32)), rv b148, .unset] [(.int (1 : Int32))])) _
              show Steps p.tables e below (T188.setTop (mkF m 303 #[.val (.long p0_0), .second, .val (.long p0_1), .second, iv p0_2, iv p0_3, iv p0_4, iv tla, iv ta0, iv ta1, .val (.long (if (p0_4 &&& (1 : Int32)) = (0 : Int32) then p0_0 else ((p0_0.toUInt64 >>> ((18 : Int32) &&& 0x3f).toInt64.toUInt64).toInt64))), .second, iv tlb, iv tb0, iv tb1, iv bla, iv ba0, iv ba1, .val (.long (if (p0_4 &&& (2 : Int32)) = (0 : Int32) then p0_1 else ((p0_1.toUInt64 >>> ((18 : Int32) &&& 0x3f).toInt64.toUInt64).toInt64))), .second, iv blb, iv bb0, iv bb1, iv (if (p0_4 &&& (4 : Int32)) = (0 : Int32) then p0_2 else p0_3), rv r_34, rv r_42, rv r_53, rv r_68, rv b86, iv (((p0_4.toUInt32 >>> ((3 : Int32) &&& 31).toUInt32).toInt32) &&& (7 : Int32)), rv b148, .unset] [(.int (1 : Int32))])) _
              refine XS.ifNo X188.here hx rfl (hb hby at_303) rfl ((if0 _ _).trans (feq (by decide : ¬ ((1 : Int32) = (0 : Int32)))).1) ?_
              show Steps p.tables e below (T188.setTop (mkF m 306 #[.val (.long p0_0), .second, .val (.long p0_1), .second, iv p0_2, iv p0_3, iv p0_4, iv tla, iv ta0, iv ta1, .val (.long (if (p0_4 &&& (1 : Int32)) = (0 : Int32) then p0_0 else ((p0_0.toUInt64 >>> ((18 : Int32) &&& 0x3f).toInt64.toUInt64).toInt64))), .second, iv tlb, iv tb0, iv tb1, iv bla, iv ba0, iv ba1, .val (.long (if (p0_4 &&& (2 : Int32)) = (0 : Int32) then p0_1 else ((p0_1.toUInt64 >>> ((18 : Int32) &&& 0x3f).toInt64.toUInt64).toInt64))), .second, iv blb, iv bb0, iv bb1, iv (if (p0_4 &&& (4 : Int32)) = (0 : Int32) then p0_2 else p0_3), rv r_34, rv r_42, rv r_53, rv r_68, rv b86, iv (((p0_4.toUInt32 >>> ((3 : Int32) &&& 31).toUInt32).toInt32) &&& (7 : Int32)), rv b148, .unset] [])) _
              refine XS.iload X188.here hx rfl (hb hby at_306) rfl ?_
              show Steps p.tables e below (T188.setTop (mkF m 308 #[.val (.long p0_0), .second, .val (.long p0_1), .second, iv p0_2, iv p0_3, iv p0_4, iv tla, iv ta0, iv ta1, .val (.long (if (p0_4 &&& (1 : Int32)) = (0 : Int32) then p0_0 else ((p0_0.toUInt64 >>> ((18 : Int32) &&& 0x3f).toInt64.toUInt64).toInt64))), .second, iv tlb, iv tb0, iv tb1, iv bla, iv ba0, iv ba1, .val (.long (if (p0_4 &&& (2 : Int32)) = (0 : Int32) then p0_1 else ((p0_1.toUInt64 >>> ((18 : Int32) &&& 0x3f).toInt64.toUInt64).toInt64))), .second, iv blb, iv bb0, iv bb1, iv (if (p0_4 &&& (4 : Int32)) = (0 : Int32) then p0_2 else p0_3), rv r_34, rv r_42, rv r_53, rv r_68, rv b86, iv (((p0_4.toUInt32 >>> ((3 : Int32) &&& 31).toUInt32).toInt32) &&& (7 : Int32)), rv b148, .unset] [(.int p0_2)])) _
              refine XS.iload X188.here hx rfl (hb hby at_308) rfl ?_
              exact k_
            by_cases hc310_193 : p0_2 = (if (p0_4 &&& (4 : Int32)) = (0 : Int32) then p0_2 else p0_3)
            · skip
              have f195 := (((((f67.keep K68q all0).ext E86).keep K110q (allS g101 all0)).ext E148).keep K176q (allS g167 all0))
              have f196 := ((f165.ext E148).keep K176q)
              have f197 := (A148.keep K176q)
              have f198 := ((hq110_0.ext E148).keep K176q (ninS ne166 nin0))
              have f199 := ((hq110_1.ext E148).keep K176q (ninS ne166 nin0))
              have f200 := ((hq110_2.ext E148).keep K176q (ninS ne166 nin0))
              have f201 := ((f149.ext E148).keep K176q)
              have f202 := (((((((hq34_2.keep K42q nin0).keep K53q nin0).keep K68q nin0).ext E86).keep K110q (ninS ne88 nin0)).ext E148).keep K176q (ninS ne150 nin0))
              have f203 := (((((((hq34_3.keep K42q nin0).keep K53q nin0).keep K68q nin0).ext E86).keep K110q (ninS ne88 nin0)).ext E148).keep K176q (ninS ne150 nin0))
              have f204 := ((f151.ext E148).keep K176q (ninS ne152 nin0))
              have f205 := ((f153.ext E148).keep K176q)
              have f206 := ((((((hq42_2.keep K53q nin0).keep K68q nin0).ext E86).keep K110q (ninS ne92 nin0)).ext E148).keep K176q (ninS ne154 nin0))
              have f207 := ((((((hq42_3.keep K53q nin0).keep K68q nin0).ext E86).keep K110q (ninS ne92 nin0)).ext E148).keep K176q (ninS ne154 nin0))
              have f208 := ((f155.ext E148).keep K176q (ninS ne156 nin0))
              have f209 := ((f157.ext E148).keep K176q)
              have f210 := (((((hq53_2.keep K68q nin0).ext E86).keep K110q (ninS ne96 nin0)).ext E148).keep K176q (ninS ne158 nin0))
              have f211 := (((((hq53_3.keep K68q nin0).ext E86).keep K110q (ninS ne96 nin0)).ext E148).keep K176q (ninS ne158 nin0))
              have f212 := ((f159.ext E148).keep K176q (ninS ne160 nin0))
              have f213 := ((f161.ext E148).keep K176q)
              have f214 := ((((hq68_2.ext E86).keep K110q (ninS ne99 nin0)).ext E148).keep K176q (ninS ne162 nin0))
              have f215 := ((((hq68_3.ext E86).keep K110q (ninS ne99 nin0)).ext E148).keep K176q (ninS ne162 nin0))
              have f216 := ((f163.ext E148).keep K176q (ninS ne164 nin0))
              obtain ⟨cq217, kq217, q217a, q217b, q217c⟩ := isOf hZ K188q f196
              obtain ⟨_, _, ⟨T217, L217, k217, n217⟩, -, X217, ⟨Lc217, hQ217, l217, y217, z217⟩, st217⟩ := X188.virtualBack hx (y := MN12) (z := MN12) hown (mvT hZ wo58) (mvT hZ wo59) (notFace_of_selects (args := #[]) (mvT hZ wo61)) (mvT hZ wo61) (mvT hZ wo60) (by decide) (backOf (W := 0) (rmEq l Z a0 hw [] b86 b148 r_34 b_34 tla (own_bl tla ta0 ta1) r_42 b_42 tlb (own_bl tlb tb0 tb1) r_53 b_53 bla (own_bl bla ba0 ba1) r_68 b_68 blb (own_bl blb bb0 bb1) p0_2 (if (p0_4 &&& (4 : Int32)) = (0 : Int32) then p0_2 else p0_3) cs (T176.heap) n0 f183 f195 pf_S_java_lang_String_COMPACT_STRINGS (hcs : ¬ (cs = (0 : Int32))) f196 f197 f198 hq176_0 f199 hq176_1 f200 hq176_2 f201 f202 f203 f204 (own_bll h3tla : tla = Int32.ofNat (own_bl tla ta0 ta1).length) (own_blr hrta0 hrta1 : ∀ c ∈ (own_bl tla ta0 ta1), ¬ c < 0 ∧ ¬ (255 : Int32) < c) (own_ble : (own_bl tla ta0 ta1).length ≤ 4000) f205 f206 f207 f208 (own_bll h3tlb : tlb = Int32.ofNat (own_bl tlb tb0 tb1).length) (own_blr hrtb0 hrtb1 : ∀ c ∈ (own_bl tlb tb0 tb1), ¬ c < 0 ∧ ¬ (255 : Int32) < c) (own_ble : (own_bl tlb tb0 tb1).length ≤ 4000) f209 f210 f211 f212 (own_bll h3bla : bla = Int32.ofNat (own_bl bla ba0 ba1).length) (own_blr hrba0 hrba1 : ∀ c ∈ (own_bl bla ba0 ba1), ¬ c < 0 ∧ ¬ (255 : Int32) < c) (own_ble : (own_bl bla ba0 ba1).length ≤ 4000) f213 f214 f215 f216 (own_bll h3blb : blb = Int32.ofNat (own_bl blb bb0 bb1).length) (own_blr hrbb0 hrbb1 : ∀ c ∈ (own_bl blb bb0 bb1), ¬ c < 0 ∧ ¬ (255 : Int32) < c) (own_ble : (own_bl blb bb0 bb1).length ≤ 4000)) hZ wo62 wo44 (by decide) (by decide)) q217a q217c (g := (mkF m 324 #[.val (.long p0_0), .second, .val (.long p0_1), .second, iv p0_2, iv p0_3, iv p0_4, iv tla, iv ta0, iv ta1, .val (.long (if (p0_4 &&& (1 : Int32)) = (0 : Int32) then p0_0 else ((p0_0.toUInt64 >>> ((18 : Int32) &&& 0x3f).toInt64.toUInt64).toInt64))), .second, iv tlb, iv tb0, iv tb1, iv bla, iv ba0, iv ba1, .val (.long (if (p0_4 &&& (2 : Int32)) = (0 : Int32) then p0_1 else ((p0_1.toUInt64 >>> ((18 : Int32) &&& 0x3f).toInt64.toUInt64).toInt64))), .second, iv blb, iv bb0, iv bb1, iv (if (p0_4 &&& (4 : Int32)) = (0 : Int32) then p0_2 else p0_3), rv r_34, rv r_42, rv r_53, rv r_68, rv b86, iv (((p0_4.toUInt32 >>> ((3 : Int32) &&& 31).toUInt32).toInt32) &&& (7 : Int32)), rv b148, iv (1 : Int32)] [(.ref b148), (.ref b86)])) rfl (by rw [hml]; rfl) (Steps.refl _) (argsL := [(.ref b148)]) (rest := []) (lenOf pd_5 rfl) rfl (by show 2 * 0 + _ ≤ _; exact Nat.le_of_eq rfl) (hb hby at_324) (fun _ _ => ⟨rfl, K188q, (by decide : 26 + 0 ≤ _), (by decide : 54 + 0 ≤ _)⟩)
              dsimp only [Pt.U, Pt.locs, Pt.cells, Pt.slots] at X217 l217 y217 z217 st217 hQ217
              rw [l217, y217, z217] at X217
              obtain ⟨rfl, N217q, K217q⟩ := hQ217
              have N218 := Fr.app N189 N217q
              have q219 : (if (own_bl tla ta0 ta1) = (own_bl tlb tb0 tb1) ∧ (own_bl bla ba0 ba1) = (own_bl blb bb0 bb1) ∧ p0_2 = (if (p0_4 &&& (4 : Int32)) = (0 : Int32) then p0_2 else p0_3) then (1 : Int32) else (0 : Int32)) = (1 : Int32) := if_pos ⟨hb186, hb191, hc310_193⟩
              have f220 := (Nat.le_trans (Nat.le_trans (Nat.le_trans (Nat.le_trans (Nat.le_refl T68.heap.size) E86.1) K110q.1) E148.1) K176q.1)
              obtain ⟨fs, hr, hrun, hended, -, hW1, hW2, hW3⟩ := X217.leaveW S68 (by rw [K217q]; exact f220) (v := some (.int (1 : Int32))) (fun h => by rw [Bd.returns] at h; cases h)
              refine ⟨_, _, pre194 _ ?_, hrun, hended, _, _, rfl, ?_, hW1, hW2, hW3.mono (by decide) (by decide)⟩
              · show Steps p.tables e below (T188.setTop (mkF m 310 #[.val (.long p0_0), .second, .val (.long p0_1), .second, iv p0_2, iv p0_3, iv p0_4, iv tla, iv ta0, iv ta1, .val (.long (if (p0_4 &&& (1 : Int32)) = (0 : Int32) then p0_0 else ((p0_0.toUInt64 >>> ((18 : Int32) &&& 0x3f).toInt64.toUInt64).toInt64))), .second, iv tlb, iv tb0, iv tb1, iv bla, iv ba0, iv ba1, .val (.long (if (p0_4 &&& (2 : Int32)) = (0 : Int32) then p0_1 else ((p0_1.toUInt64 >>> ((18 : Int32) &&& 0x3f).toInt64.toUInt64).toInt64))), .second, iv blb, iv bb0, iv bb1, iv (if (p0_4 &&& (4 : Int32)) = (0 : Int32) then p0_2 else p0_3), rv r_34, rv r_42, rv r_53, rv r_68, rv b86, iv (((p0_4.toUInt32 >>> ((3 : Int32) &&& 31).toUInt32).toInt32) &&& (7 : Int32)), rv b148, .unset] [(.int (if (p0_4 &&& (4 : Int32)) = (0 : Int32) then p0_2 else p0_3)), (.int p0_2)])) _
                refine XS.icmpNo X188.here hx rfl (hb hby at_310) rfl (teq hc310_193).2 ?_
                show Steps p.tables e below (T188.setTop (mkF m 313 #[.val (.long p0_0), .second, .val (.long p0_1), .second, iv p0_2, iv p0_3, iv p0_4, iv tla, iv ta0, iv ta1, .val (.long (if (p0_4 &&& (1 : Int32)) = (0 : Int32) then p0_0 else ((p0_0.toUInt64 >>> ((18 : Int32) &&& 0x3f).toInt64.toUInt64).toInt64))), .second, iv tlb, iv tb0, iv tb1, iv bla, iv ba0, iv ba1, .val (.long (if (p0_4 &&& (2 : Int32)) = (0 : Int32) then p0_1 else ((p0_1.toUInt64 >>> ((18 : Int32) &&& 0x3f).toInt64.toUInt64).toInt64))), .second, iv blb, iv bb0, iv bb1, iv (if (p0_4 &&& (4 : Int32)) = (0 : Int32) then p0_2 else p0_3), rv r_34, rv r_42, rv r_53, rv r_68, rv b86, iv (((p0_4.toUInt32 >>> ((3 : Int32) &&& 31).toUInt32).toInt32) &&& (7 : Int32)), rv b148, .unset] [])) _
                refine XS.iconst X188.here hx rfl (hb hby at_313) ?_
                show Steps p.tables e below (T188.setTop (mkF m 314 #[.val (.long p0_0), .second, .val (.long p0_1), .second, iv p0_2, iv p0_3, iv p0_4, iv tla, iv ta0, iv ta1, .val (.long (if (p0_4 &&& (1 : Int32)) = (0 : Int32) then p0_0 else ((p0_0.toUInt64 >>> ((18 : Int32) &&& 0x3f).toInt64.toUInt64).toInt64))), .second, iv tlb, iv tb0, iv tb1, iv bla, iv ba0, iv ba1, .val (.long (if (p0_4 &&& (2 : Int32)) = (0 : Int32) then p0_1 else ((p0_1.toUInt64 >>> ((18 : Int32) &&& 0x3f).toInt64.toUInt64).toInt64))), .second, iv blb, iv bb0, iv bb1, iv (if (p0_4 &&& (4 : Int32)) = (0 : Int32) then p0_2 else p0_3), rv r_34, rv r_42, rv r_53, rv r_68, rv b86, iv (((p0_4.toUInt32 >>> ((3 : Int32) &&& 31).toUInt32).toInt32) &&& (7 : Int32)), rv b148, .unset] [(.int (1 : Int32))])) _
                refine XS.goto X188.here hx rfl (pc0 := 314) (pc' := 318) rfl (hb hby at_314) (by decide) (by decide) ?_
                show Steps p.tables e below (T188.setTop (mkF m 318 #[.val (.long p0_0), .second, .val (.long p0_1), .second, iv p0_2, iv p0_3, iv p0_4, iv tla, iv ta0, iv ta1, .val (.long (if (p0_4 &&& (1 : Int32)) = (0 : Int32) then p0_0 else ((p0_0.toUInt64 >>> ((18 : Int32) &&& 0x3f).toInt64.toUInt64).toInt64))), .second, iv tlb, iv tb0, iv tb1, iv bla, iv ba0, iv ba1, .val (.long (if (p0_4 &&& (2 : Int32)) = (0 : Int32) then p0_1 else ((p0_1.toUInt64 >>> ((18 : Int32) &&& 0x3f).toInt64.toUInt64).toInt64))), .second, iv blb, iv bb0, iv bb1, iv (if (p0_4 &&& (4 : Int32)) = (0 : Int32) then p0_2 else p0_3), rv r_34, rv r_42, rv r_53, rv r_68, rv b86, iv (((p0_4.toUInt32 >>> ((3 : Int32) &&& 31).toUInt32).toInt32) &&& (7 : Int32)), rv b148, .unset] [(.int (1 : Int32))])) _
                refine XS.istore X188.here hx rfl (hb hby at_318) rfl (l' := #[.val (.long p0_0), .second, .val (.long p0_1), .second, iv p0_2, iv p0_3, iv p0_4, iv tla, iv ta0, iv ta1, .val (.long (if (p0_4 &&& (1 : Int32)) = (0 : Int32) then p0_0 else ((p0_0.toUInt64 >>> ((18 : Int32) &&& 0x3f).toInt64.toUInt64).toInt64))), .second, iv tlb, iv tb0, iv tb1, iv bla, iv ba0, iv ba1, .val (.long (if (p0_4 &&& (2 : Int32)) = (0 : Int32) then p0_1 else ((p0_1.toUInt64 >>> ((18 : Int32) &&& 0x3f).toInt64.toUInt64).toInt64))), .second, iv blb, iv bb0, iv bb1, iv (if (p0_4 &&& (4 : Int32)) = (0 : Int32) then p0_2 else p0_3), rv r_34, rv r_42, rv r_53, rv r_68, rv b86, iv (((p0_4.toUInt32 >>> ((3 : Int32) &&& 31).toUInt32).toInt32) &&& (7 : Int32)), rv b148, iv (1 : Int32)]) rfl ?_
                show Steps p.tables e below (T188.setTop (mkF m 320 #[.val (.long p0_0), .second, .val (.long p0_1), .second, iv p0_2, iv p0_3, iv p0_4, iv tla, iv ta0, iv ta1, .val (.long (if (p0_4 &&& (1 : Int32)) = (0 : Int32) then p0_0 else ((p0_0.toUInt64 >>> ((18 : Int32) &&& 0x3f).toInt64.toUInt64).toInt64))), .second, iv tlb, iv tb0, iv tb1, iv bla, iv ba0, iv ba1, .val (.long (if (p0_4 &&& (2 : Int32)) = (0 : Int32) then p0_1 else ((p0_1.toUInt64 >>> ((18 : Int32) &&& 0x3f).toInt64.toUInt64).toInt64))), .second, iv blb, iv bb0, iv bb1, iv (if (p0_4 &&& (4 : Int32)) = (0 : Int32) then p0_2 else p0_3), rv r_34, rv r_42, rv r_53, rv r_68, rv b86, iv (((p0_4.toUInt32 >>> ((3 : Int32) &&& 31).toUInt32).toInt32) &&& (7 : Int32)), rv b148, iv (1 : Int32)] [])) _
                refine XS.aload X188.here hx rfl (hb hby at_320) rfl rfl ?_
                show Steps p.tables e below (T188.setTop (mkF m 322 #[.val (.long p0_0), .second, .val (.long p0_1), .second, iv p0_2, iv p0_3, iv p0_4, iv tla, iv ta0, iv ta1, .val (.long (if (p0_4 &&& (1 : Int32)) = (0 : Int32) then p0_0 else ((p0_0.toUInt64 >>> ((18 : Int32) &&& 0x3f).toInt64.toUInt64).toInt64))), .second, iv tlb, iv tb0, iv tb1, iv bla, iv ba0, iv ba1, .val (.long (if (p0_4 &&& (2 : Int32)) = (0 : Int32) then p0_1 else ((p0_1.toUInt64 >>> ((18 : Int32) &&& 0x3f).toInt64.toUInt64).toInt64))), .second, iv blb, iv bb0, iv bb1, iv (if (p0_4 &&& (4 : Int32)) = (0 : Int32) then p0_2 else p0_3), rv r_34, rv r_42, rv r_53, rv r_68, rv b86, iv (((p0_4.toUInt32 >>> ((3 : Int32) &&& 31).toUInt32).toInt32) &&& (7 : Int32)), rv b148, iv (1 : Int32)] [(.ref b86)])) _
                refine XS.aload X188.here hx rfl (hb hby at_322) rfl rfl ?_
                show Steps p.tables e below (T188.setTop (mkF m 324 #[.val (.long p0_0), .second, .val (.long p0_1), .second, iv p0_2, iv p0_3, iv p0_4, iv tla, iv ta0, iv ta1, .val (.long (if (p0_4 &&& (1 : Int32)) = (0 : Int32) then p0_0 else ((p0_0.toUInt64 >>> ((18 : Int32) &&& 0x3f).toInt64.toUInt64).toInt64))), .second, iv tlb, iv tb0, iv tb1, iv bla, iv ba0, iv ba1, .val (.long (if (p0_4 &&& (2 : Int32)) = (0 : Int32) then p0_1 else ((p0_1.toUInt64 >>> ((18 : Int32) &&& 0x3f).toInt64.toUInt64).toInt64))), .second, iv blb, iv bb0, iv bb1, iv (if (p0_4 &&& (4 : Int32)) = (0 : Int32) then p0_2 else p0_3), rv r_34, rv r_42, rv r_53, rv r_68, rv b86, iv (((p0_4.toUInt32 >>> ((3 : Int32) &&& 31).toUInt32).toInt32) &&& (7 : Int32)), rv b148, iv (1 : Int32)] [(.ref b148), (.ref b86)])) _
                refine st217.trans ?_
                show Steps p.tables e below (T217.setTop (mkF m 327 #[.val (.long p0_0), .second, .val (.long p0_1), .second, iv p0_2, iv p0_3, iv p0_4, iv tla, iv ta0, iv ta1, .val (.long (if (p0_4 &&& (1 : Int32)) = (0 : Int32) then p0_0 else ((p0_0.toUInt64 >>> ((18 : Int32) &&& 0x3f).toInt64.toUInt64).toInt64))), .second, iv tlb, iv tb0, iv tb1, iv bla, iv ba0, iv ba1, .val (.long (if (p0_4 &&& (2 : Int32)) = (0 : Int32) then p0_1 else ((p0_1.toUInt64 >>> ((18 : Int32) &&& 0x3f).toInt64.toUInt64).toInt64))), .second, iv blb, iv bb0, iv bb1, iv (if (p0_4 &&& (4 : Int32)) = (0 : Int32) then p0_2 else p0_3), rv r_34, rv r_42, rv r_53, rv r_68, rv b86, iv (((p0_4.toUInt32 >>> ((3 : Int32) &&& 31).toUInt32).toInt32) &&& (7 : Int32)), rv b148, iv (1 : Int32)] [(.int (if (own_bl tla ta0 ta1) = (own_bl tlb tb0 tb1) ∧ (own_bl bla ba0 ba1) = (own_bl blb bb0 bb1) ∧ p0_2 = (if (p0_4 &&& (4 : Int32)) = (0 : Int32) then p0_2 else p0_3) then (1 : Int32) else (0 : Int32)))])) _
                rw [q219]
                show Steps p.tables e below (T217.setTop (mkF m 327 #[.val (.long p0_0), .second, .val (.long p0_1), .second, iv p0_2, iv p0_3, iv p0_4, iv tla, iv ta0, iv ta1, .val (.long (if (p0_4 &&& (1 : Int32)) = (0 : Int32) then p0_0 else ((p0_0.toUInt64 >>> ((18 : Int32) &&& 0x3f).toInt64.toUInt64).toInt64))), .second, iv tlb, iv tb0, iv tb1, iv bla, iv ba0, iv ba1, .val (.long (if (p0_4 &&& (2 : Int32)) = (0 : Int32) then p0_1 else ((p0_1.toUInt64 >>> ((18 : Int32) &&& 0x3f).toInt64.toUInt64).toInt64))), .second, iv blb, iv bb0, iv bb1, iv (if (p0_4 &&& (4 : Int32)) = (0 : Int32) then p0_2 else p0_3), rv r_34, rv r_42, rv r_53, rv r_68, rv b86, iv (((p0_4.toUInt32 >>> ((3 : Int32) &&& 31).toUInt32).toInt32) &&& (7 : Int32)), rv b148, iv (1 : Int32)] [(.int (1 : Int32))])) _
                show Steps p.tables e below (T217.setTop (mkF m 327 #[.val (.long p0_0), .second, .val (.long p0_1), .second, iv p0_2, iv p0_3, iv p0_4, iv tla, iv ta0, iv ta1, .val (.long (if (p0_4 &&& (1 : Int32)) = (0 : Int32) then p0_0 else ((p0_0.toUInt64 >>> ((18 : Int32) &&& 0x3f).toInt64.toUInt64).toInt64))), .second, iv tlb, iv tb0, iv tb1, iv bla, iv ba0, iv ba1, .val (.long (if (p0_4 &&& (2 : Int32)) = (0 : Int32) then p0_1 else ((p0_1.toUInt64 >>> ((18 : Int32) &&& 0x3f).toInt64.toUInt64).toInt64))), .second, iv blb, iv bb0, iv bb1, iv (if (p0_4 &&& (4 : Int32)) = (0 : Int32) then p0_2 else p0_3), rv r_34, rv r_42, rv r_53, rv r_68, rv b86, iv (((p0_4.toUInt32 >>> ((3 : Int32) &&& 31).toUInt32).toInt32) &&& (7 : Int32)), rv b148, iv (1 : Int32)] [(.int (1 : Int32))])) _
                refine XS.iload X217.here hx rfl (hb hby at_327) rfl ?_
                show Steps p.tables e below (T217.setTop (mkF m 329 #[.val (.long p0_0), .second, .val (.long p0_1), .second, iv p0_2, iv p0_3, iv p0_4, iv tla, iv ta0, iv ta1, .val (.long (if (p0_4 &&& (1 : Int32)) = (0 : Int32) then p0_0 else ((p0_0.toUInt64 >>> ((18 : Int32) &&& 0x3f).toInt64.toUInt64).toInt64))), .second, iv tlb, iv tb0, iv tb1, iv bla, iv ba0, iv ba1, .val (.long (if (p0_4 &&& (2 : Int32)) = (0 : Int32) then p0_1 else ((p0_1.toUInt64 >>> ((18 : Int32) &&& 0x3f).toInt64.toUInt64).toInt64))), .second, iv blb, iv bb0, iv bb1, iv (if (p0_4 &&& (4 : Int32)) = (0 : Int32) then p0_2 else p0_3), rv r_34, rv r_42, rv r_53, rv r_68, rv b86, iv (((p0_4.toUInt32 >>> ((3 : Int32) &&& 31).toUInt32).toInt32) &&& (7 : Int32)), rv b148, iv (1 : Int32)] [(.int (1 : Int32)), (.int (1 : Int32))])) _
                refine XS.icmpNo X217.here hx rfl (hb hby at_329) rfl (teq (by decide : (1 : Int32) = (1 : Int32))).2 ?_
                show Steps p.tables e below (T217.setTop (mkF m 332 #[.val (.long p0_0), .second, .val (.long p0_1), .second, iv p0_2, iv p0_3, iv p0_4, iv tla, iv ta0, iv ta1, .val (.long (if (p0_4 &&& (1 : Int32)) = (0 : Int32) then p0_0 else ((p0_0.toUInt64 >>> ((18 : Int32) &&& 0x3f).toInt64.toUInt64).toInt64))), .second, iv tlb, iv tb0, iv tb1, iv bla, iv ba0, iv ba1, .val (.long (if (p0_4 &&& (2 : Int32)) = (0 : Int32) then p0_1 else ((p0_1.toUInt64 >>> ((18 : Int32) &&& 0x3f).toInt64.toUInt64).toInt64))), .second, iv blb, iv bb0, iv bb1, iv (if (p0_4 &&& (4 : Int32)) = (0 : Int32) then p0_2 else p0_3), rv r_34, rv r_42, rv r_53, rv r_68, rv b86, iv (((p0_4.toUInt32 >>> ((3 : Int32) &&& 31).toUInt32).toInt32) &&& (7 : Int32)), rv b148, iv (1 : Int32)] [])) _
                refine XS.iconst X217.here hx rfl (hb hby at_332) ?_
                show Steps p.tables e below (T217.setTop (mkF m 333 #[.val (.long p0_0), .second, .val (.long p0_1), .second, iv p0_2, iv p0_3, iv p0_4, iv tla, iv ta0, iv ta1, .val (.long (if (p0_4 &&& (1 : Int32)) = (0 : Int32) then p0_0 else ((p0_0.toUInt64 >>> ((18 : Int32) &&& 0x3f).toInt64.toUInt64).toInt64))), .second, iv tlb, iv tb0, iv tb1, iv bla, iv ba0, iv ba1, .val (.long (if (p0_4 &&& (2 : Int32)) = (0 : Int32) then p0_1 else ((p0_1.toUInt64 >>> ((18 : Int32) &&& 0x3f).toInt64.toUInt64).toInt64))), .second, iv blb, iv bb0, iv bb1, iv (if (p0_4 &&& (4 : Int32)) = (0 : Int32) then p0_2 else p0_3), rv r_34, rv r_42, rv r_53, rv r_68, rv b86, iv (((p0_4.toUInt32 >>> ((3 : Int32) &&& 31).toUInt32).toInt32) &&& (7 : Int32)), rv b148, iv (1 : Int32)] [(.int (1 : Int32))])) _
                refine XS.goto X217.here hx rfl (pc0 := 333) (pc' := 337) rfl (hb hby at_333) (by decide) (by decide) ?_
                show Steps p.tables e below (T217.setTop (mkF m 337 #[.val (.long p0_0), .second, .val (.long p0_1), .second, iv p0_2, iv p0_3, iv p0_4, iv tla, iv ta0, iv ta1, .val (.long (if (p0_4 &&& (1 : Int32)) = (0 : Int32) then p0_0 else ((p0_0.toUInt64 >>> ((18 : Int32) &&& 0x3f).toInt64.toUInt64).toInt64))), .second, iv tlb, iv tb0, iv tb1, iv bla, iv ba0, iv ba1, .val (.long (if (p0_4 &&& (2 : Int32)) = (0 : Int32) then p0_1 else ((p0_1.toUInt64 >>> ((18 : Int32) &&& 0x3f).toInt64.toUInt64).toInt64))), .second, iv blb, iv bb0, iv bb1, iv (if (p0_4 &&& (4 : Int32)) = (0 : Int32) then p0_2 else p0_3), rv r_34, rv r_42, rv r_53, rv r_68, rv b86, iv (((p0_4.toUInt32 >>> ((3 : Int32) &&& 31).toUInt32).toInt32) &&& (7 : Int32)), rv b148, iv (1 : Int32)] [(.int (1 : Int32))])) _
                exact retN X217 hx (t := .boolean) Bd.returns (by simp) (hb hby at_337) hr
              · show Q_rm0 Z _ _ _ _ _ _ h0 n0 _ T217.heap _
                rw [K217q]
                exact ⟨rfl, N218, (K181)⟩
            · skip
              have f221 := (((((f67.keep K68q all0).ext E86).keep K110q (allS g101 all0)).ext E148).keep K176q (allS g167 all0))
              have f222 := ((f165.ext E148).keep K176q)
              have f223 := (A148.keep K176q)
              have f224 := ((hq110_0.ext E148).keep K176q (ninS ne166 nin0))
              have f225 := ((hq110_1.ext E148).keep K176q (ninS ne166 nin0))
              have f226 := ((hq110_2.ext E148).keep K176q (ninS ne166 nin0))
              have f227 := ((f149.ext E148).keep K176q)
              have f228 := (((((((hq34_2.keep K42q nin0).keep K53q nin0).keep K68q nin0).ext E86).keep K110q (ninS ne88 nin0)).ext E148).keep K176q (ninS ne150 nin0))
              have f229 := (((((((hq34_3.keep K42q nin0).keep K53q nin0).keep K68q nin0).ext E86).keep K110q (ninS ne88 nin0)).ext E148).keep K176q (ninS ne150 nin0))
              have f230 := ((f151.ext E148).keep K176q (ninS ne152 nin0))
              have f231 := ((f153.ext E148).keep K176q)
              have f232 := ((((((hq42_2.keep K53q nin0).keep K68q nin0).ext E86).keep K110q (ninS ne92 nin0)).ext E148).keep K176q (ninS ne154 nin0))
              have f233 := ((((((hq42_3.keep K53q nin0).keep K68q nin0).ext E86).keep K110q (ninS ne92 nin0)).ext E148).keep K176q (ninS ne154 nin0))
              have f234 := ((f155.ext E148).keep K176q (ninS ne156 nin0))
              have f235 := ((f157.ext E148).keep K176q)
              have f236 := (((((hq53_2.keep K68q nin0).ext E86).keep K110q (ninS ne96 nin0)).ext E148).keep K176q (ninS ne158 nin0))
              have f237 := (((((hq53_3.keep K68q nin0).ext E86).keep K110q (ninS ne96 nin0)).ext E148).keep K176q (ninS ne158 nin0))
              have f238 := ((f159.ext E148).keep K176q (ninS ne160 nin0))
              have f239 := ((f161.ext E148).keep K176q)
              have f240 := ((((hq68_2.ext E86).keep K110q (ninS ne99 nin0)).ext E148).keep K176q (ninS ne162 nin0))
              have f241 := ((((hq68_3.ext E86).keep K110q (ninS ne99 nin0)).ext E148).keep K176q (ninS ne162 nin0))
              have f242 := ((f163.ext E148).keep K176q (ninS ne164 nin0))
              obtain ⟨cq243, kq243, q243a, q243b, q243c⟩ := isOf hZ K188q f222
              obtain ⟨_, _, ⟨T243, L243, k243, n243⟩, -, X243, ⟨Lc243, hQ243, l243, y243, z243⟩, st243⟩ := X188.virtualBack hx (y := MN12) (z := MN12) hown (mvT hZ wo58) (mvT hZ wo59) (notFace_of_selects (args := #[]) (mvT hZ wo61)) (mvT hZ wo61) (mvT hZ wo60) (by decide) (backOf (W := 0) (rmEq l Z a0 hw [] b86 b148 r_34 b_34 tla (own_bl tla ta0 ta1) r_42 b_42 tlb (own_bl tlb tb0 tb1) r_53 b_53 bla (own_bl bla ba0 ba1) r_68 b_68 blb (own_bl blb bb0 bb1) p0_2 (if (p0_4 &&& (4 : Int32)) = (0 : Int32) then p0_2 else p0_3) cs (T176.heap) n0 f183 f221 pf_S_java_lang_String_COMPACT_STRINGS (hcs : ¬ (cs = (0 : Int32))) f222 f223 f224 hq176_0 f225 hq176_1 f226 hq176_2 f227 f228 f229 f230 (own_bll h3tla : tla = Int32.ofNat (own_bl tla ta0 ta1).length) (own_blr hrta0 hrta1 : ∀ c ∈ (own_bl tla ta0 ta1), ¬ c < 0 ∧ ¬ (255 : Int32) < c) (own_ble : (own_bl tla ta0 ta1).length ≤ 4000) f231 f232 f233 f234 (own_bll h3tlb : tlb = Int32.ofNat (own_bl tlb tb0 tb1).length) (own_blr hrtb0 hrtb1 : ∀ c ∈ (own_bl tlb tb0 tb1), ¬ c < 0 ∧ ¬ (255 : Int32) < c) (own_ble : (own_bl tlb tb0 tb1).length ≤ 4000) f235 f236 f237 f238 (own_bll h3bla : bla = Int32.ofNat (own_bl bla ba0 ba1).length) (own_blr hrba0 hrba1 : ∀ c ∈ (own_bl bla ba0 ba1), ¬ c < 0 ∧ ¬ (255 : Int32) < c) (own_ble : (own_bl bla ba0 ba1).length ≤ 4000) f239 f240 f241 f242 (own_bll h3blb : blb = Int32.ofNat (own_bl blb bb0 bb1).length) (own_blr hrbb0 hrbb1 : ∀ c ∈ (own_bl blb bb0 bb1), ¬ c < 0 ∧ ¬ (255 : Int32) < c) (own_ble : (own_bl blb bb0 bb1).length ≤ 4000)) hZ wo62 wo44 (by decide) (by decide)) q243a q243c (g := (mkF m 324 #[.val (.long p0_0), .second, .val (.long p0_1), .second, iv p0_2, iv p0_3, iv p0_4, iv tla, iv ta0, iv ta1, .val (.long (if (p0_4 &&& (1 : Int32)) = (0 : Int32) then p0_0 else ((p0_0.toUInt64 >>> ((18 : Int32) &&& 0x3f).toInt64.toUInt64).toInt64))), .second, iv tlb, iv tb0, iv tb1, iv bla, iv ba0, iv ba1, .val (.long (if (p0_4 &&& (2 : Int32)) = (0 : Int32) then p0_1 else ((p0_1.toUInt64 >>> ((18 : Int32) &&& 0x3f).toInt64.toUInt64).toInt64))), .second, iv blb, iv bb0, iv bb1, iv (if (p0_4 &&& (4 : Int32)) = (0 : Int32) then p0_2 else p0_3), rv r_34, rv r_42, rv r_53, rv r_68, rv b86, iv (((p0_4.toUInt32 >>> ((3 : Int32) &&& 31).toUInt32).toInt32) &&& (7 : Int32)), rv b148, iv (0 : Int32)] [(.ref b148), (.ref b86)])) rfl (by rw [hml]; rfl) (Steps.refl _) (argsL := [(.ref b148)]) (rest := []) (lenOf pd_5 rfl) rfl (by show 2 * 0 + _ ≤ _; exact Nat.le_of_eq rfl) (hb hby at_324) (fun _ _ => ⟨rfl, K188q, (by decide : 26 + 0 ≤ _), (by decide : 54 + 0 ≤ _)⟩)
              dsimp only [Pt.U, Pt.locs, Pt.cells, Pt.slots] at X243 l243 y243 z243 st243 hQ243
              rw [l243, y243, z243] at X243
              obtain ⟨rfl, N243q, K243q⟩ := hQ243
              have N244 := Fr.app N189 N243q
              have q245 : (if (own_bl tla ta0 ta1) = (own_bl tlb tb0 tb1) ∧ (own_bl bla ba0 ba1) = (own_bl blb bb0 bb1) ∧ p0_2 = (if (p0_4 &&& (4 : Int32)) = (0 : Int32) then p0_2 else p0_3) then (1 : Int32) else (0 : Int32)) = (0 : Int32) := if_neg (fun q => hc310_193 q.2.2)
              have f246 := (Nat.le_trans (Nat.le_trans (Nat.le_trans (Nat.le_trans (Nat.le_refl T68.heap.size) E86.1) K110q.1) E148.1) K176q.1)
              obtain ⟨fs, hr, hrun, hended, -, hW1, hW2, hW3⟩ := X243.leaveW S68 (by rw [K243q]; exact f246) (v := some (.int (1 : Int32))) (fun h => by rw [Bd.returns] at h; cases h)
              refine ⟨_, _, pre194 _ ?_, hrun, hended, _, _, rfl, ?_, hW1, hW2, hW3.mono (by decide) (by decide)⟩
              · show Steps p.tables e below (T188.setTop (mkF m 310 #[.val (.long p0_0), .second, .val (.long p0_1), .second, iv p0_2, iv p0_3, iv p0_4, iv tla, iv ta0, iv ta1, .val (.long (if (p0_4 &&& (1 : Int32)) = (0 : Int32) then p0_0 else ((p0_0.toUInt64 >>> ((18 : Int32) &&& 0x3f).toInt64.toUInt64).toInt64))), .second, iv tlb, iv tb0, iv tb1, iv bla, iv ba0, iv ba1, .val (.long (if (p0_4 &&& (2 : Int32)) = (0 : Int32) then p0_1 else ((p0_1.toUInt64 >>> ((18 : Int32) &&& 0x3f).toInt64.toUInt64).toInt64))), .second, iv blb, iv bb0, iv bb1, iv (if (p0_4 &&& (4 : Int32)) = (0 : Int32) then p0_2 else p0_3), rv r_34, rv r_42, rv r_53, rv r_68, rv b86, iv (((p0_4.toUInt32 >>> ((3 : Int32) &&& 31).toUInt32).toInt32) &&& (7 : Int32)), rv b148, .unset] [(.int (if (p0_4 &&& (4 : Int32)) = (0 : Int32) then p0_2 else p0_3)), (.int p0_2)])) _
                refine XS.icmpYes X188.here hx rfl (pc0 := 310) (pc' := 317) rfl (hb hby at_310) rfl (feq hc310_193).2 (by decide) (by decide) ?_
                show Steps p.tables e below (T188.setTop (mkF m 317 #[.val (.long p0_0), .second, .val (.long p0_1), .second, iv p0_2, iv p0_3, iv p0_4, iv tla, iv ta0, iv ta1, .val (.long (if (p0_4 &&& (1 : Int32)) = (0 : Int32) then p0_0 else ((p0_0.toUInt64 >>> ((18 : Int32) &&& 0x3f).toInt64.toUInt64).toInt64))), .second, iv tlb, iv tb0, iv tb1, iv bla, iv ba0, iv ba1, .val (.long (if (p0_4 &&& (2 : Int32)) = (0 : Int32) then p0_1 else ((p0_1.toUInt64 >>> ((18 : Int32) &&& 0x3f).toInt64.toUInt64).toInt64))), .second, iv blb, iv bb0, iv bb1, iv (if (p0_4 &&& (4 : Int32)) = (0 : Int32) then p0_2 else p0_3), rv r_34, rv r_42, rv r_53, rv r_68, rv b86, iv (((p0_4.toUInt32 >>> ((3 : Int32) &&& 31).toUInt32).toInt32) &&& (7 : Int32)), rv b148, .unset] [])) _
                refine XS.iconst X188.here hx rfl (hb hby at_317) ?_
                show Steps p.tables e below (T188.setTop (mkF m 318 #[.val (.long p0_0), .second, .val (.long p0_1), .second, iv p0_2, iv p0_3, iv p0_4, iv tla, iv ta0, iv ta1, .val (.long (if (p0_4 &&& (1 : Int32)) = (0 : Int32) then p0_0 else ((p0_0.toUInt64 >>> ((18 : Int32) &&& 0x3f).toInt64.toUInt64).toInt64))), .second, iv tlb, iv tb0, iv tb1, iv bla, iv ba0, iv ba1, .val (.long (if (p0_4 &&& (2 : Int32)) = (0 : Int32) then p0_1 else ((p0_1.toUInt64 >>> ((18 : Int32) &&& 0x3f).toInt64.toUInt64).toInt64))), .second, iv blb, iv bb0, iv bb1, iv (if (p0_4 &&& (4 : Int32)) = (0 : Int32) then p0_2 else p0_3), rv r_34, rv r_42, rv r_53, rv r_68, rv b86, iv (((p0_4.toUInt32 >>> ((3 : Int32) &&& 31).toUInt32).toInt32) &&& (7 : Int32)), rv b148, .unset] [(.int (0 : Int32))])) _
                refine XS.istore X188.here hx rfl (hb hby at_318) rfl (l' := #[.val (.long p0_0), .second, .val (.long p0_1), .second, iv p0_2, iv p0_3, iv p0_4, iv tla, iv ta0, iv ta1, .val (.long (if (p0_4 &&& (1 : Int32)) = (0 : Int32) then p0_0 else ((p0_0.toUInt64 >>> ((18 : Int32) &&& 0x3f).toInt64.toUInt64).toInt64))), .second, iv tlb, iv tb0, iv tb1, iv bla, iv ba0, iv ba1, .val (.long (if (p0_4 &&& (2 : Int32)) = (0 : Int32) then p0_1 else ((p0_1.toUInt64 >>> ((18 : Int32) &&& 0x3f).toInt64.toUInt64).toInt64))), .second, iv blb, iv bb0, iv bb1, iv (if (p0_4 &&& (4 : Int32)) = (0 : Int32) then p0_2 else p0_3), rv r_34, rv r_42, rv r_53, rv r_68, rv b86, iv (((p0_4.toUInt32 >>> ((3 : Int32) &&& 31).toUInt32).toInt32) &&& (7 : Int32)), rv b148, iv (0 : Int32)]) rfl ?_
                show Steps p.tables e below (T188.setTop (mkF m 320 #[.val (.long p0_0), .second, .val (.long p0_1), .second, iv p0_2, iv p0_3, iv p0_4, iv tla, iv ta0, iv ta1, .val (.long (if (p0_4 &&& (1 : Int32)) = (0 : Int32) then p0_0 else ((p0_0.toUInt64 >>> ((18 : Int32) &&& 0x3f).toInt64.toUInt64).toInt64))), .second, iv tlb, iv tb0, iv tb1, iv bla, iv ba0, iv ba1, .val (.long (if (p0_4 &&& (2 : Int32)) = (0 : Int32) then p0_1 else ((p0_1.toUInt64 >>> ((18 : Int32) &&& 0x3f).toInt64.toUInt64).toInt64))), .second, iv blb, iv bb0, iv bb1, iv (if (p0_4 &&& (4 : Int32)) = (0 : Int32) then p0_2 else p0_3), rv r_34, rv r_42, rv r_53, rv r_68, rv b86, iv (((p0_4.toUInt32 >>> ((3 : Int32) &&& 31).toUInt32).toInt32) &&& (7 : Int32)), rv b148, iv (0 : Int32)] [])) _
                refine XS.aload X188.here hx rfl (hb hby at_320) rfl rfl ?_
                show Steps p.tables e below (T188.setTop (mkF m 322 #[.val (.long p0_0), .second, .val (.long p0_1), .second, iv p0_2, iv p0_3, iv p0_4, iv tla, iv ta0, iv ta1, .val (.long (if (p0_4 &&& (1 : Int32)) = (0 : Int32) then p0_0 else ((p0_0.toUInt64 >>> ((18 : Int32) &&& 0x3f).toInt64.toUInt64).toInt64))), .second, iv tlb, iv tb0, iv tb1, iv bla, iv ba0, iv ba1, .val (.long (if (p0_4 &&& (2 : Int32)) = (0 : Int32) then p0_1 else ((p0_1.toUInt64 >>> ((18 : Int32) &&& 0x3f).toInt64.toUInt64).toInt64))), .second, iv blb, iv bb0, iv bb1, iv (if (p0_4 &&& (4 : Int32)) = (0 : Int32) then p0_2 else p0_3), rv r_34, rv r_42, rv r_53, rv r_68, rv b86, iv (((p0_4.toUInt32 >>> ((3 : Int32) &&& 31).toUInt32).toInt32) &&& (7 : Int32)), rv b148, iv (0 : Int32)] [(.ref b86)])) _
                refine XS.aload X188.here hx rfl (hb hby at_322) rfl rfl ?_
                show Steps p.tables e below (T188.setTop (mkF m 324 #[.val (.long p0_0), .second, .val (.long p0_1), .second, iv p0_2, iv p0_3, iv p0_4, iv tla, iv ta0, iv ta1, .val (.long (if (p0_4 &&& (1 : Int32)) = (0 : Int32) then p0_0 else ((p0_0.toUInt64 >>> ((18 : Int32) &&& 0x3f).toInt64.toUInt64).toInt64))), .second, iv tlb, iv tb0, iv tb1, iv bla, iv ba0, iv ba1, .val (.long (if (p0_4 &&& (2 : Int32)) = (0 : Int32) then p0_1 else ((p0_1.toUInt64 >>> ((18 : Int32) &&& 0x3f).toInt64.toUInt64).toInt64))), .second, iv blb, iv bb0, iv bb1, iv (if (p0_4 &&& (4 : Int32)) = (0 : Int32) then p0_2 else p0_3), rv r_34, rv r_42, rv r_53, rv r_68, rv b86, iv (((p0_4.toUInt32 >>> ((3 : Int32) &&& 31).toUInt32).toInt32) &&& (7 : Int32)), rv b148, iv (0 : Int32)] [(.ref b148), (.ref b86)])) _
                refine st243.trans ?_
                show Steps p.tables e below (T243.setTop (mkF m 327 #[.val (.long p0_0), .second, .val (.long p0_1), .second, iv p0_2, iv p0_3, iv p0_4, iv tla, iv ta0, iv ta1, .val (.long (if (p0_4 &&& (1 : Int32)) = (0 : Int32) then p0_0 else ((p0_0.toUInt64 >>> ((18 : Int32) &&& 0x3f).toInt64.toUInt64).toInt64))), .second, iv tlb, iv tb0, iv tb1, iv bla, iv ba0, iv ba1, .val (.long (if (p0_4 &&& (2 : Int32)) = (0 : Int32) then p0_1 else ((p0_1.toUInt64 >>> ((18 : Int32) &&& 0x3f).toInt64.toUInt64).toInt64))), .second, iv blb, iv bb0, iv bb1, iv (if (p0_4 &&& (4 : Int32)) = (0 : Int32) then p0_2 else p0_3), rv r_34, rv r_42, rv r_53, rv r_68, rv b86, iv (((p0_4.toUInt32 >>> ((3 : Int32) &&& 31).toUInt32).toInt32) &&& (7 : Int32)), rv b148, iv (0 : Int32)] [(.int (if (own_bl tla ta0 ta1) = (own_bl tlb tb0 tb1) ∧ (own_bl bla ba0 ba1) = (own_bl blb bb0 bb1) ∧ p0_2 = (if (p0_4 &&& (4 : Int32)) = (0 : Int32) then p0_2 else p0_3) then (1 : Int32) else (0 : Int32)))])) _
                rw [q245]
                show Steps p.tables e below (T243.setTop (mkF m 327 #[.val (.long p0_0), .second, .val (.long p0_1), .second, iv p0_2, iv p0_3, iv p0_4, iv tla, iv ta0, iv ta1, .val (.long (if (p0_4 &&& (1 : Int32)) = (0 : Int32) then p0_0 else ((p0_0.toUInt64 >>> ((18 : Int32) &&& 0x3f).toInt64.toUInt64).toInt64))), .second, iv tlb, iv tb0, iv tb1, iv bla, iv ba0, iv ba1, .val (.long (if (p0_4 &&& (2 : Int32)) = (0 : Int32) then p0_1 else ((p0_1.toUInt64 >>> ((18 : Int32) &&& 0x3f).toInt64.toUInt64).toInt64))), .second, iv blb, iv bb0, iv bb1, iv (if (p0_4 &&& (4 : Int32)) = (0 : Int32) then p0_2 else p0_3), rv r_34, rv r_42, rv r_53, rv r_68, rv b86, iv (((p0_4.toUInt32 >>> ((3 : Int32) &&& 31).toUInt32).toInt32) &&& (7 : Int32)), rv b148, iv (0 : Int32)] [(.int (0 : Int32))])) _
                show Steps p.tables e below (T243.setTop (mkF m 327 #[.val (.long p0_0), .second, .val (.long p0_1), .second, iv p0_2, iv p0_3, iv p0_4, iv tla, iv ta0, iv ta1, .val (.long (if (p0_4 &&& (1 : Int32)) = (0 : Int32) then p0_0 else ((p0_0.toUInt64 >>> ((18 : Int32) &&& 0x3f).toInt64.toUInt64).toInt64))), .second, iv tlb, iv tb0, iv tb1, iv bla, iv ba0, iv ba1, .val (.long (if (p0_4 &&& (2 : Int32)) = (0 : Int32) then p0_1 else ((p0_1.toUInt64 >>> ((18 : Int32) &&& 0x3f).toInt64.toUInt64).toInt64))), .second, iv blb, iv bb0, iv bb1, iv (if (p0_4 &&& (4 : Int32)) = (0 : Int32) then p0_2 else p0_3), rv r_34, rv r_42, rv r_53, rv r_68, rv b86, iv (((p0_4.toUInt32 >>> ((3 : Int32) &&& 31).toUInt32).toInt32) &&& (7 : Int32)), rv b148, iv (0 : Int32)] [(.int (0 : Int32))])) _
                refine XS.iload X243.here hx rfl (hb hby at_327) rfl ?_
                show Steps p.tables e below (T243.setTop (mkF m 329 #[.val (.long p0_0), .second, .val (.long p0_1), .second, iv p0_2, iv p0_3, iv p0_4, iv tla, iv ta0, iv ta1, .val (.long (if (p0_4 &&& (1 : Int32)) = (0 : Int32) then p0_0 else ((p0_0.toUInt64 >>> ((18 : Int32) &&& 0x3f).toInt64.toUInt64).toInt64))), .second, iv tlb, iv tb0, iv tb1, iv bla, iv ba0, iv ba1, .val (.long (if (p0_4 &&& (2 : Int32)) = (0 : Int32) then p0_1 else ((p0_1.toUInt64 >>> ((18 : Int32) &&& 0x3f).toInt64.toUInt64).toInt64))), .second, iv blb, iv bb0, iv bb1, iv (if (p0_4 &&& (4 : Int32)) = (0 : Int32) then p0_2 else p0_3), rv r_34, rv r_42, rv r_53, rv r_68, rv b86, iv (((p0_4.toUInt32 >>> ((3 : Int32) &&& 31).toUInt32).toInt32) &&& (7 : Int32)), rv b148, iv (0 : Int32)] [(.int (0 : Int32)), (.int (0 : Int32))])) _
                refine XS.icmpNo X243.here hx rfl (hb hby at_329) rfl (teq (by decide : (0 : Int32) = (0 : Int32))).2 ?_
                show Steps p.tables e below (T243.setTop (mkF m 332 #[.val (.long p0_0), .second, .val (.long p0_1), .second, iv p0_2, iv p0_3, iv p0_4, iv tla, iv ta0, iv ta1, .val (.long (if (p0_4 &&& (1 : Int32)) = (0 : Int32) then p0_0 else ((p0_0.toUInt64 >>> ((18 : Int32) &&& 0x3f).toInt64.toUInt64).toInt64))), .second, iv tlb, iv tb0, iv tb1, iv bla, iv ba0, iv ba1, .val (.long (if (p0_4 &&& (2 : Int32)) = (0 : Int32) then p0_1 else ((p0_1.toUInt64 >>> ((18 : Int32) &&& 0x3f).toInt64.toUInt64).toInt64))), .second, iv blb, iv bb0, iv bb1, iv (if (p0_4 &&& (4 : Int32)) = (0 : Int32) then p0_2 else p0_3), rv r_34, rv r_42, rv r_53, rv r_68, rv b86, iv (((p0_4.toUInt32 >>> ((3 : Int32) &&& 31).toUInt32).toInt32) &&& (7 : Int32)), rv b148, iv (0 : Int32)] [])) _
                refine XS.iconst X243.here hx rfl (hb hby at_332) ?_
                show Steps p.tables e below (T243.setTop (mkF m 333 #[.val (.long p0_0), .second, .val (.long p0_1), .second, iv p0_2, iv p0_3, iv p0_4, iv tla, iv ta0, iv ta1, .val (.long (if (p0_4 &&& (1 : Int32)) = (0 : Int32) then p0_0 else ((p0_0.toUInt64 >>> ((18 : Int32) &&& 0x3f).toInt64.toUInt64).toInt64))), .second, iv tlb, iv tb0, iv tb1, iv bla, iv ba0, iv ba1, .val (.long (if (p0_4 &&& (2 : Int32)) = (0 : Int32) then p0_1 else ((p0_1.toUInt64 >>> ((18 : Int32) &&& 0x3f).toInt64.toUInt64).toInt64))), .second, iv blb, iv bb0, iv bb1, iv (if (p0_4 &&& (4 : Int32)) = (0 : Int32) then p0_2 else p0_3), rv r_34, rv r_42, rv r_53, rv r_68, rv b86, iv (((p0_4.toUInt32 >>> ((3 : Int32) &&& 31).toUInt32).toInt32) &&& (7 : Int32)), rv b148, iv (0 : Int32)] [(.int (1 : Int32))])) _
                refine XS.goto X243.here hx rfl (pc0 := 333) (pc' := 337) rfl (hb hby at_333) (by decide) (by decide) ?_
                show Steps p.tables e below (T243.setTop (mkF m 337 #[.val (.long p0_0), .second, .val (.long p0_1), .second, iv p0_2, iv p0_3, iv p0_4, iv tla, iv ta0, iv ta1, .val (.long (if (p0_4 &&& (1 : Int32)) = (0 : Int32) then p0_0 else ((p0_0.toUInt64 >>> ((18 : Int32) &&& 0x3f).toInt64.toUInt64).toInt64))), .second, iv tlb, iv tb0, iv tb1, iv bla, iv ba0, iv ba1, .val (.long (if (p0_4 &&& (2 : Int32)) = (0 : Int32) then p0_1 else ((p0_1.toUInt64 >>> ((18 : Int32) &&& 0x3f).toInt64.toUInt64).toInt64))), .second, iv blb, iv bb0, iv bb1, iv (if (p0_4 &&& (4 : Int32)) = (0 : Int32) then p0_2 else p0_3), rv r_34, rv r_42, rv r_53, rv r_68, rv b86, iv (((p0_4.toUInt32 >>> ((3 : Int32) &&& 31).toUInt32).toInt32) &&& (7 : Int32)), rv b148, iv (0 : Int32)] [(.int (1 : Int32))])) _
                exact retN X243 hx (t := .boolean) Bd.returns (by simp) (hb hby at_337) hr
              · show Q_rm0 Z _ _ _ _ _ _ h0 n0 _ T243.heap _
                rw [K243q]
                exact ⟨rfl, N244, (K181)⟩
          · skip
            have q247 : (if (own_bl bla ba0 ba1) = (own_bl blb bb0 bb1) then (1 : Int32) else (0 : Int32)) = (0 : Int32) := if_neg hb191
            have f248 := (((((f67.keep K68q all0).ext E86).keep K110q (allS g101 all0)).ext E148).keep K176q (allS g167 all0))
            have f249 := ((f165.ext E148).keep K176q)
            have f250 := (A148.keep K176q)
            have f251 := ((hq110_0.ext E148).keep K176q (ninS ne166 nin0))
            have f252 := ((hq110_1.ext E148).keep K176q (ninS ne166 nin0))
            have f253 := ((hq110_2.ext E148).keep K176q (ninS ne166 nin0))
            have f254 := ((f149.ext E148).keep K176q)
            have f255 := (((((((hq34_2.keep K42q nin0).keep K53q nin0).keep K68q nin0).ext E86).keep K110q (ninS ne88 nin0)).ext E148).keep K176q (ninS ne150 nin0))
            have f256 := (((((((hq34_3.keep K42q nin0).keep K53q nin0).keep K68q nin0).ext E86).keep K110q (ninS ne88 nin0)).ext E148).keep K176q (ninS ne150 nin0))
            have f257 := ((f151.ext E148).keep K176q (ninS ne152 nin0))
            have f258 := ((f153.ext E148).keep K176q)
            have f259 := ((((((hq42_2.keep K53q nin0).keep K68q nin0).ext E86).keep K110q (ninS ne92 nin0)).ext E148).keep K176q (ninS ne154 nin0))
            have f260 := ((((((hq42_3.keep K53q nin0).keep K68q nin0).ext E86).keep K110q (ninS ne92 nin0)).ext E148).keep K176q (ninS ne154 nin0))
            have f261 := ((f155.ext E148).keep K176q (ninS ne156 nin0))
            have f262 := ((f157.ext E148).keep K176q)
            have f263 := (((((hq53_2.keep K68q nin0).ext E86).keep K110q (ninS ne96 nin0)).ext E148).keep K176q (ninS ne158 nin0))
            have f264 := (((((hq53_3.keep K68q nin0).ext E86).keep K110q (ninS ne96 nin0)).ext E148).keep K176q (ninS ne158 nin0))
            have f265 := ((f159.ext E148).keep K176q (ninS ne160 nin0))
            have f266 := ((f161.ext E148).keep K176q)
            have f267 := ((((hq68_2.ext E86).keep K110q (ninS ne99 nin0)).ext E148).keep K176q (ninS ne162 nin0))
            have f268 := ((((hq68_3.ext E86).keep K110q (ninS ne99 nin0)).ext E148).keep K176q (ninS ne162 nin0))
            have f269 := ((f163.ext E148).keep K176q (ninS ne164 nin0))
            obtain ⟨cq270, kq270, q270a, q270b, q270c⟩ := isOf hZ K188q f249
            obtain ⟨_, _, ⟨T270, L270, k270, n270⟩, -, X270, ⟨Lc270, hQ270, l270, y270, z270⟩, st270⟩ := X188.virtualBack hx (y := MN12) (z := MN12) hown (mvT hZ wo58) (mvT hZ wo59) (notFace_of_selects (args := #[]) (mvT hZ wo61)) (mvT hZ wo61) (mvT hZ wo60) (by decide) (backOf (W := 0) (rmEq l Z a0 hw [] b86 b148 r_34 b_34 tla (own_bl tla ta0 ta1) r_42 b_42 tlb (own_bl tlb tb0 tb1) r_53 b_53 bla (own_bl bla ba0 ba1) r_68 b_68 blb (own_bl blb bb0 bb1) p0_2 (if (p0_4 &&& (4 : Int32)) = (0 : Int32) then p0_2 else p0_3) cs (T176.heap) n0 f183 f248 pf_S_java_lang_String_COMPACT_STRINGS (hcs : ¬ (cs = (0 : Int32))) f249 f250 f251 hq176_0 f252 hq176_1 f253 hq176_2 f254 f255 f256 f257 (own_bll h3tla : tla = Int32.ofNat (own_bl tla ta0 ta1).length) (own_blr hrta0 hrta1 : ∀ c ∈ (own_bl tla ta0 ta1), ¬ c < 0 ∧ ¬ (255 : Int32) < c) (own_ble : (own_bl tla ta0 ta1).length ≤ 4000) f258 f259 f260 f261 (own_bll h3tlb : tlb = Int32.ofNat (own_bl tlb tb0 tb1).length) (own_blr hrtb0 hrtb1 : ∀ c ∈ (own_bl tlb tb0 tb1), ¬ c < 0 ∧ ¬ (255 : Int32) < c) (own_ble : (own_bl tlb tb0 tb1).length ≤ 4000) f262 f263 f264 f265 (own_bll h3bla : bla = Int32.ofNat (own_bl bla ba0 ba1).length) (own_blr hrba0 hrba1 : ∀ c ∈ (own_bl bla ba0 ba1), ¬ c < 0 ∧ ¬ (255 : Int32) < c) (own_ble : (own_bl bla ba0 ba1).length ≤ 4000) f266 f267 f268 f269 (own_bll h3blb : blb = Int32.ofNat (own_bl blb bb0 bb1).length) (own_blr hrbb0 hrbb1 : ∀ c ∈ (own_bl blb bb0 bb1), ¬ c < 0 ∧ ¬ (255 : Int32) < c) (own_ble : (own_bl blb bb0 bb1).length ≤ 4000)) hZ wo62 wo44 (by decide) (by decide)) q270a q270c (g := (mkF m 324 #[.val (.long p0_0), .second, .val (.long p0_1), .second, iv p0_2, iv p0_3, iv p0_4, iv tla, iv ta0, iv ta1, .val (.long (if (p0_4 &&& (1 : Int32)) = (0 : Int32) then p0_0 else ((p0_0.toUInt64 >>> ((18 : Int32) &&& 0x3f).toInt64.toUInt64).toInt64))), .second, iv tlb, iv tb0, iv tb1, iv bla, iv ba0, iv ba1, .val (.long (if (p0_4 &&& (2 : Int32)) = (0 : Int32) then p0_1 else ((p0_1.toUInt64 >>> ((18 : Int32) &&& 0x3f).toInt64.toUInt64).toInt64))), .second, iv blb, iv bb0, iv bb1, iv (if (p0_4 &&& (4 : Int32)) = (0 : Int32) then p0_2 else p0_3), rv r_34, rv r_42, rv r_53, rv r_68, rv b86, iv (((p0_4.toUInt32 >>> ((3 : Int32) &&& 31).toUInt32).toInt32) &&& (7 : Int32)), rv b148, iv (0 : Int32)] [(.ref b148), (.ref b86)])) rfl (by rw [hml]; rfl) (Steps.refl _) (argsL := [(.ref b148)]) (rest := []) (lenOf pd_5 rfl) rfl (by show 2 * 0 + _ ≤ _; exact Nat.le_of_eq rfl) (hb hby at_324) (fun _ _ => ⟨rfl, K188q, (by decide : 26 + 0 ≤ _), (by decide : 54 + 0 ≤ _)⟩)
            dsimp only [Pt.U, Pt.locs, Pt.cells, Pt.slots] at X270 l270 y270 z270 st270 hQ270
            rw [l270, y270, z270] at X270
            obtain ⟨rfl, N270q, K270q⟩ := hQ270
            have N271 := Fr.app N189 N270q
            have q272 : (if (own_bl tla ta0 ta1) = (own_bl tlb tb0 tb1) ∧ (own_bl bla ba0 ba1) = (own_bl blb bb0 bb1) ∧ p0_2 = (if (p0_4 &&& (4 : Int32)) = (0 : Int32) then p0_2 else p0_3) then (1 : Int32) else (0 : Int32)) = (0 : Int32) := if_neg (fun q => hb191 q.2.1)
            have f273 := (Nat.le_trans (Nat.le_trans (Nat.le_trans (Nat.le_trans (Nat.le_refl T68.heap.size) E86.1) K110q.1) E148.1) K176q.1)
            obtain ⟨fs, hr, hrun, hended, -, hW1, hW2, hW3⟩ := X270.leaveW S68 (by rw [K270q]; exact f273) (v := some (.int (1 : Int32))) (fun h => by rw [Bd.returns] at h; cases h)
            refine ⟨_, _, pre190 _ ?_, hrun, hended, _, _, rfl, ?_, hW1, hW2, hW3.mono (by decide) (by decide)⟩
            · show Steps p.tables e below (T188.setTop (mkF m 303 #[.val (.long p0_0), .second, .val (.long p0_1), .second, iv p0_2, iv p0_3, iv p0_4, iv tla, iv ta0, iv ta1, .val (.long (if (p0_4 &&& (1 : Int32)) = (0 : Int32) then p0_0 else ((p0_0.toUInt64 >>> ((18 : Int32) &&& 0x3f).toInt64.toUInt64).toInt64))), .second, iv tlb, iv tb0, iv tb1, iv bla, iv ba0, iv ba1, .val (.long (if (p0_4 &&& (2 : Int32)) = (0 : Int32) then p0_1 else ((p0_1.toUInt64 >>> ((18 : Int32) &&& 0x3f).toInt64.toUInt64).toInt64))), .second, iv blb, iv bb0, iv bb1, iv (if (p0_4 &&& (4 : Int32)) = (0 : Int32) then p0_2 else p0_3), rv r_34, rv r_42, rv r_53, rv r_68, rv b86, iv (((p0_4.toUInt32 >>> ((3 : Int32) &&& 31).toUInt32).toInt32) &&& (7 : Int32)), rv b148, .unset] [(.int (if (own_bl bla ba0 ba1) = (own_bl blb bb0 bb1) then (1 : Int32) else (0 : Int32)))])) _
              rw [q247]
              show Steps p.tables e below (T188.setTop (mkF m 303 #[.val (.long p0_0), .second, .val (.long p0_1), .second, iv p0_2, iv p0_3, iv p0_4, iv tla, iv ta0, iv ta1, .val (.long (if (p0_4 &&& (1 : Int32)) = (0 : Int32) then p0_0 else ((p0_0.toUInt64 >>> ((18 : Int32) &&& 0x3f).toInt64.toUInt64).toInt64))), .second, iv tlb, iv tb0, iv tb1, iv bla, iv ba0, iv ba1, .val (.long (if (p0_4 &&& (2 : Int32)) = (0 : Int32) then p0_1 else ((p0_1.toUInt64 >>> ((18 : Int32) &&& 0x3f).toInt64.toUInt64).toInt64))), .second, iv blb, iv bb0, iv bb1, iv (if (p0_4 &&& (4 : Int32)) = (0 : Int32) then p0_2 else p0_3), rv r_34, rv r_42, rv r_53, rv r_68, rv b86, iv (((p0_4.toUInt32 >>> ((3 : Int32) &&& 31).toUInt32).toInt32) &&& (7 : Int32)), rv b148, .unset] [(.int (0 : Int32))])) _
              show Steps p.tables e below (T188.setTop (mkF m 303 #[.val (.long p0_0), .second, .val (.long p0_1), .second, iv p0_2, iv p0_3, iv p0_4, iv tla, iv ta0, iv ta1, .val (.long (if (p0_4 &&& (1 : Int32)) = (0 : Int32) then p0_0 else ((p0_0.toUInt64 >>> ((18 : Int32) &&& 0x3f).toInt64.toUInt64).toInt64))), .second, iv tlb, iv tb0, iv tb1, iv bla, iv ba0, iv ba1, .val (.long (if (p0_4 &&& (2 : Int32)) = (0 : Int32) then p0_1 else ((p0_1.toUInt64 >>> ((18 : Int32) &&& 0x3f).toInt64.toUInt64).toInt64))), .second, iv blb, iv bb0, iv bb1, iv (if (p0_4 &&& (4 : Int32)) = (0 : Int32) then p0_2 else p0_3), rv r_34, rv r_42, rv r_53, rv r_68, rv b86, iv (((p0_4.toUInt32 >>> ((3 : Int32) &&& 31).toUInt32).toInt32) &&& (7 : Int32)), rv b148, .unset] [(.int (0 : Int32))])) _
              refine XS.ifYes X188.here hx rfl (pc0 := 303) (pc' := 317) rfl (hb hby at_303) rfl ((if0 _ _).trans (teq (by decide : (0 : Int32) = (0 : Int32))).1) (by decide) (by decide) ?_
              show Steps p.tables e below (T188.setTop (mkF m 317 #[.val (.long p0_0), .second, .val (.long p0_1), .second, iv p0_2, iv p0_3, iv p0_4, iv tla, iv ta0, iv ta1, .val (.long (if (p0_4 &&& (1 : Int32)) = (0 : Int32) then p0_0 else ((p0_0.toUInt64 >>> ((18 : Int32) &&& 0x3f).toInt64.toUInt64).toInt64))), .second, iv tlb, iv tb0, iv tb1, iv bla, iv ba0, iv ba1, .val (.long (if (p0_4 &&& (2 : Int32)) = (0 : Int32) then p0_1 else ((p0_1.toUInt64 >>> ((18 : Int32) &&& 0x3f).toInt64.toUInt64).toInt64))), .second, iv blb, iv bb0, iv bb1, iv (if (p0_4 &&& (4 : Int32)) = (0 : Int32) then p0_2 else p0_3), rv r_34, rv r_42, rv r_53, rv r_68, rv b86, iv (((p0_4.toUInt32 >>> ((3 : Int32) &&& 31).toUInt32).toInt32) &&& (7 : Int32)), rv b148, .unset] [])) _
              refine XS.iconst X188.here hx rfl (hb hby at_317) ?_
              show Steps p.tables e below (T188.setTop (mkF m 318 #[.val (.long p0_0), .second, .val (.long p0_1), .second, iv p0_2, iv p0_3, iv p0_4, iv tla, iv ta0, iv ta1, .val (.long (if (p0_4 &&& (1 : Int32)) = (0 : Int32) then p0_0 else ((p0_0.toUInt64 >>> ((18 : Int32) &&& 0x3f).toInt64.toUInt64).toInt64))), .second, iv tlb, iv tb0, iv tb1, iv bla, iv ba0, iv ba1, .val (.long (if (p0_4 &&& (2 : Int32)) = (0 : Int32) then p0_1 else ((p0_1.toUInt64 >>> ((18 : Int32) &&& 0x3f).toInt64.toUInt64).toInt64))), .second, iv blb, iv bb0, iv bb1, iv (if (p0_4 &&& (4 : Int32)) = (0 : Int32) then p0_2 else p0_3), rv r_34, rv r_42, rv r_53, rv r_68, rv b86, iv (((p0_4.toUInt32 >>> ((3 : Int32) &&& 31).toUInt32).toInt32) &&& (7 : Int32)), rv b148, .unset] [(.int (0 : Int32))])) _
              refine XS.istore X188.here hx rfl (hb hby at_318) rfl (l' := #[.val (.long p0_0), .second, .val (.long p0_1), .second, iv p0_2, iv p0_3, iv p0_4, iv tla, iv ta0, iv ta1, .val (.long (if (p0_4 &&& (1 : Int32)) = (0 : Int32) then p0_0 else ((p0_0.toUInt64 >>> ((18 : Int32) &&& 0x3f).toInt64.toUInt64).toInt64))), .second, iv tlb, iv tb0, iv tb1, iv bla, iv ba0, iv ba1, .val (.long (if (p0_4 &&& (2 : Int32)) = (0 : Int32) then p0_1 else ((p0_1.toUInt64 >>> ((18 : Int32) &&& 0x3f).toInt64.toUInt64).toInt64))), .second, iv blb, iv bb0, iv bb1, iv (if (p0_4 &&& (4 : Int32)) = (0 : Int32) then p0_2 else p0_3), rv r_34, rv r_42, rv r_53, rv r_68, rv b86, iv (((p0_4.toUInt32 >>> ((3 : Int32) &&& 31).toUInt32).toInt32) &&& (7 : Int32)), rv b148, iv (0 : Int32)]) rfl ?_
              show Steps p.tables e below (T188.setTop (mkF m 320 #[.val (.long p0_0), .second, .val (.long p0_1), .second, iv p0_2, iv p0_3, iv p0_4, iv tla, iv ta0, iv ta1, .val (.long (if (p0_4 &&& (1 : Int32)) = (0 : Int32) then p0_0 else ((p0_0.toUInt64 >>> ((18 : Int32) &&& 0x3f).toInt64.toUInt64).toInt64))), .second, iv tlb, iv tb0, iv tb1, iv bla, iv ba0, iv ba1, .val (.long (if (p0_4 &&& (2 : Int32)) = (0 : Int32) then p0_1 else ((p0_1.toUInt64 >>> ((18 : Int32) &&& 0x3f).toInt64.toUInt64).toInt64))), .second, iv blb, iv bb0, iv bb1, iv (if (p0_4 &&& (4 : Int32)) = (0 : Int32) then p0_2 else p0_3), rv r_34, rv r_42, rv r_53, rv r_68, rv b86, iv (((p0_4.toUInt32 >>> ((3 : Int32) &&& 31).toUInt32).toInt32) &&& (7 : Int32)), rv b148, iv (0 : Int32)] [])) _
              refine XS.aload X188.here hx rfl (hb hby at_320) rfl rfl ?_
              show Steps p.tables e below (T188.setTop (mkF m 322 #[.val (.long p0_0), .second, .val (.long p0_1), .second, iv p0_2, iv p0_3, iv p0_4, iv tla, iv ta0, iv ta1, .val (.long (if (p0_4 &&& (1 : Int32)) = (0 : Int32) then p0_0 else ((p0_0.toUInt64 >>> ((18 : Int32) &&& 0x3f).toInt64.toUInt64).toInt64))), .second, iv tlb, iv tb0, iv tb1, iv bla, iv ba0, iv ba1, .val (.long (if (p0_4 &&& (2 : Int32)) = (0 : Int32) then p0_1 else ((p0_1.toUInt64 >>> ((18 : Int32) &&& 0x3f).toInt64.toUInt64).toInt64))), .second, iv blb, iv bb0, iv bb1, iv (if (p0_4 &&& (4 : Int32)) = (0 : Int32) then p0_2 else p0_3), rv r_34, rv r_42, rv r_53, rv r_68, rv b86, iv (((p0_4.toUInt32 >>> ((3 : Int32) &&& 31).toUInt32).toInt32) &&& (7 : Int32)), rv b148, iv (0 : Int32)] [(.ref b86)])) _
              refine XS.aload X188.here hx rfl (hb hby at_322) rfl rfl ?_
              show Steps p.tables e below (T188.setTop (mkF m 324 #[.val (.long p0_0), .second, .val (.long p0_1), .second, iv p0_2, iv p0_3, iv p0_4, iv tla, iv ta0, iv ta1, .val (.long (if (p0_4 &&& (1 : Int32)) = (0 : Int32) then p0_0 else ((p0_0.toUInt64 >>> ((18 : Int32) &&& 0x3f).toInt64.toUInt64).toInt64))), .second, iv tlb, iv tb0, iv tb1, iv bla, iv ba0, iv ba1, .val (.long (if (p0_4 &&& (2 : Int32)) = (0 : Int32) then p0_1 else ((p0_1.toUInt64 >>> ((18 : Int32) &&& 0x3f).toInt64.toUInt64).toInt64))), .second, iv blb, iv bb0, iv bb1, iv (if (p0_4 &&& (4 : Int32)) = (0 : Int32) then p0_2 else p0_3), rv r_34, rv r_42, rv r_53, rv r_68, rv b86, iv (((p0_4.toUInt32 >>> ((3 : Int32) &&& 31).toUInt32).toInt32) &&& (7 : Int32)), rv b148, iv (0 : Int32)] [(.ref b148), (.ref b86)])) _
              refine st270.trans ?_
              show Steps p.tables e below (T270.setTop (mkF m 327 #[.val (.long p0_0), .second, .val (.long p0_1), .second, iv p0_2, iv p0_3, iv p0_4, iv tla, iv ta0, iv ta1, .val (.long (if (p0_4 &&& (1 : Int32)) = (0 : Int32) then p0_0 else ((p0_0.toUInt64 >>> ((18 : Int32) &&& 0x3f).toInt64.toUInt64).toInt64))), .second, iv tlb, iv tb0, iv tb1, iv bla, iv ba0, iv ba1, .val (.long (if (p0_4 &&& (2 : Int32)) = (0 : Int32) then p0_1 else ((p0_1.toUInt64 >>> ((18 : Int32) &&& 0x3f).toInt64.toUInt64).toInt64))), .second, iv blb, iv bb0, iv bb1, iv (if (p0_4 &&& (4 : Int32)) = (0 : Int32) then p0_2 else p0_3), rv r_34, rv r_42, rv r_53, rv r_68, rv b86, iv (((p0_4.toUInt32 >>> ((3 : Int32) &&& 31).toUInt32).toInt32) &&& (7 : Int32)), rv b148, iv (0 : Int32)] [(.int (if (own_bl tla ta0 ta1) = (own_bl tlb tb0 tb1) ∧ (own_bl bla ba0 ba1) = (own_bl blb bb0 bb1) ∧ p0_2 = (if (p0_4 &&& (4 : Int32)) = (0 : Int32) then p0_2 else p0_3) then (1 : Int32) else (0 : Int32)))])) _
              rw [q272]
              show Steps p.tables e below (T270.setTop (mkF m 327 #[.val (.long p0_0), .second, .val (.long p0_1), .second, iv p0_2, iv p0_3, iv p0_4, iv tla, iv ta0, iv ta1, .val (.long (if (p0_4 &&& (1 : Int32)) = (0 : Int32) then p0_0 else ((p0_0.toUInt64 >>> ((18 : Int32) &&& 0x3f).toInt64.toUInt64).toInt64))), .second, iv tlb, iv tb0, iv tb1, iv bla, iv ba0, iv ba1, .val (.long (if (p0_4 &&& (2 : Int32)) = (0 : Int32) then p0_1 else ((p0_1.toUInt64 >>> ((18 : Int32) &&& 0x3f).toInt64.toUInt64).toInt64))), .second, iv blb, iv bb0, iv bb1, iv (if (p0_4 &&& (4 : Int32)) = (0 : Int32) then p0_2 else p0_3), rv r_34, rv r_42, rv r_53, rv r_68, rv b86, iv (((p0_4.toUInt32 >>> ((3 : Int32) &&& 31).toUInt32).toInt32) &&& (7 : Int32)), rv b148, iv (0 : Int32)] [(.int (0 : Int32))])) _
              show Steps p.tables e below (T270.setTop (mkF m 327 #[.val (.long p0_0), .second, .val (.long p0_1), .second, iv p0_2, iv p0_3, iv p0_4, iv tla, iv ta0, iv ta1, .val (.long (if (p0_4 &&& (1 : Int32)) = (0 : Int32) then p0_0 else ((p0_0.toUInt64 >>> ((18 : Int32) &&& 0x3f).toInt64.toUInt64).toInt64))), .second, iv tlb, iv tb0, iv tb1, iv bla, iv ba0, iv ba1, .val (.long (if (p0_4 &&& (2 : Int32)) = (0 : Int32) then p0_1 else ((p0_1.toUInt64 >>> ((18 : Int32) &&& 0x3f).toInt64.toUInt64).toInt64))), .second, iv blb, iv bb0, iv bb1, iv (if (p0_4 &&& (4 : Int32)) = (0 : Int32) then p0_2 else p0_3), rv r_34, rv r_42, rv r_53, rv r_68, rv b86, iv (((p0_4.toUInt32 >>> ((3 : Int32) &&& 31).toUInt32).toInt32) &&& (7 : Int32)), rv b148, iv (0 : Int32)] [(.int (0 : Int32))])) _
              refine XS.iload X270.here hx rfl (hb hby at_327) rfl ?_
              show Steps p.tables e below (T270.setTop (mkF m 329 #[.val (.long p0_0), .second, .val (.long p0_1), .second, iv p0_2, iv p0_3, iv p0_4, iv tla, iv ta0, iv ta1, .val (.long (if (p0_4 &&& (1 : Int32)) = (0 : Int32) then p0_0 else ((p0_0.toUInt64 >>> ((18 : Int32) &&& 0x3f).toInt64.toUInt64).toInt64))), .second, iv tlb, iv tb0, iv tb1, iv bla, iv ba0, iv ba1, .val (.long (if (p0_4 &&& (2 : Int32)) = (0 : Int32) then p0_1 else ((p0_1.toUInt64 >>> ((18 : Int32) &&& 0x3f).toInt64.toUInt64).toInt64))), .second, iv blb, iv bb0, iv bb1, iv (if (p0_4 &&& (4 : Int32)) = (0 : Int32) then p0_2 else p0_3), rv r_34, rv r_42, rv r_53, rv r_68, rv b86, iv (((p0_4.toUInt32 >>> ((3 : Int32) &&& 31).toUInt32).toInt32) &&& (7 : Int32)), rv b148, iv (0 : Int32)] [(.int (0 : Int32)), (.int (0 : Int32))])) _
              refine XS.icmpNo X270.here hx rfl (hb hby at_329) rfl (teq (by decide : (0 : Int32) = (0 : Int32))).2 ?_
              show Steps p.tables e below (T270.setTop (mkF m 332 #[.val (.long p0_0), .second, .val (.long p0_1), .second, iv p0_2, iv p0_3, iv p0_4, iv tla, iv ta0, iv ta1, .val (.long (if (p0_4 &&& (1 : Int32)) = (0 : Int32) then p0_0 else ((p0_0.toUInt64 >>> ((18 : Int32) &&& 0x3f).toInt64.toUInt64).toInt64))), .second, iv tlb, iv tb0, iv tb1, iv bla, iv ba0, iv ba1, .val (.long (if (p0_4 &&& (2 : Int32)) = (0 : Int32) then p0_1 else ((p0_1.toUInt64 >>> ((18 : Int32) &&& 0x3f).toInt64.toUInt64).toInt64))), .second, iv blb, iv bb0, iv bb1, iv (if (p0_4 &&& (4 : Int32)) = (0 : Int32) then p0_2 else p0_3), rv r_34, rv r_42, rv r_53, rv r_68, rv b86, iv (((p0_4.toUInt32 >>> ((3 : Int32) &&& 31).toUInt32).toInt32) &&& (7 : Int32)), rv b148, iv (0 : Int32)] [])) _
              refine XS.iconst X270.here hx rfl (hb hby at_332) ?_
              show Steps p.tables e below (T270.setTop (mkF m 333 #[.val (.long p0_0), .second, .val (.long p0_1), .second, iv p0_2, iv p0_3, iv p0_4, iv tla, iv ta0, iv ta1, .val (.long (if (p0_4 &&& (1 : Int32)) = (0 : Int32) then p0_0 else ((p0_0.toUInt64 >>> ((18 : Int32) &&& 0x3f).toInt64.toUInt64).toInt64))), .second, iv tlb, iv tb0, iv tb1, iv bla, iv ba0, iv ba1, .val (.long (if (p0_4 &&& (2 : Int32)) = (0 : Int32) then p0_1 else ((p0_1.toUInt64 >>> ((18 : Int32) &&& 0x3f).toInt64.toUInt64).toInt64))), .second, iv blb, iv bb0, iv bb1, iv (if (p0_4 &&& (4 : Int32)) = (0 : Int32) then p0_2 else p0_3), rv r_34, rv r_42, rv r_53, rv r_68, rv b86, iv (((p0_4.toUInt32 >>> ((3 : Int32) &&& 31).toUInt32).toInt32) &&& (7 : Int32)), rv b148, iv (0 : Int32)] [(.int (1 : Int32))])) _
              refine XS.goto X270.here hx rfl (pc0 := 333) (pc' := 337) rfl (hb hby at_333) (by decide) (by decide) ?_
              show Steps p.tables e below (T270.setTop (mkF m 337 #[.val (.long p0_0), .second, .val (.long p0_1), .second, iv p0_2, iv p0_3, iv p0_4, iv tla, iv ta0, iv ta1, .val (.long (if (p0_4 &&& (1 : Int32)) = (0 : Int32) then p0_0 else ((p0_0.toUInt64 >>> ((18 : Int32) &&& 0x3f).toInt64.toUInt64).toInt64))), .second, iv tlb, iv tb0, iv tb1, iv bla, iv ba0, iv ba1, .val (.long (if (p0_4 &&& (2 : Int32)) = (0 : Int32) then p0_1 else ((p0_1.toUInt64 >>> ((18 : Int32) &&& 0x3f).toInt64.toUInt64).toInt64))), .second, iv blb, iv bb0, iv bb1, iv (if (p0_4 &&& (4 : Int32)) = (0 : Int32) then p0_2 else p0_3), rv r_34, rv r_42, rv r_53, rv r_68, rv b86, iv (((p0_4.toUInt32 >>> ((3 : Int32) &&& 31).toUInt32).toInt32) &&& (7 : Int32)), rv b148, iv (0 : Int32)] [(.int (1 : Int32))])) _
              exact retN X270 hx (t := .boolean) Bd.returns (by simp) (hb hby at_337) hr
            · show Q_rm0 Z _ _ _ _ _ _ h0 n0 _ T270.heap _
              rw [K270q]
              exact ⟨rfl, N271, (K181)⟩
        · skip
          have q274 : (if (own_bl tla ta0 ta1) = (own_bl tlb tb0 tb1) then (1 : Int32) else (0 : Int32)) = (0 : Int32) := if_neg hb186
          have f275 := (((((f67.keep K68q all0).ext E86).keep K110q (allS g101 all0)).ext E148).keep K176q (allS g167 all0))
          have f276 := ((f165.ext E148).keep K176q)
          have f277 := (A148.keep K176q)
          have f278 := ((hq110_0.ext E148).keep K176q (ninS ne166 nin0))
          have f279 := ((hq110_1.ext E148).keep K176q (ninS ne166 nin0))
          have f280 := ((hq110_2.ext E148).keep K176q (ninS ne166 nin0))
          have f281 := ((f149.ext E148).keep K176q)
          have f282 := (((((((hq34_2.keep K42q nin0).keep K53q nin0).keep K68q nin0).ext E86).keep K110q (ninS ne88 nin0)).ext E148).keep K176q (ninS ne150 nin0))
          have f283 := (((((((hq34_3.keep K42q nin0).keep K53q nin0).keep K68q nin0).ext E86).keep K110q (ninS ne88 nin0)).ext E148).keep K176q (ninS ne150 nin0))
          have f284 := ((f151.ext E148).keep K176q (ninS ne152 nin0))
          have f285 := ((f153.ext E148).keep K176q)
          have f286 := ((((((hq42_2.keep K53q nin0).keep K68q nin0).ext E86).keep K110q (ninS ne92 nin0)).ext E148).keep K176q (ninS ne154 nin0))
          have f287 := ((((((hq42_3.keep K53q nin0).keep K68q nin0).ext E86).keep K110q (ninS ne92 nin0)).ext E148).keep K176q (ninS ne154 nin0))
          have f288 := ((f155.ext E148).keep K176q (ninS ne156 nin0))
          have f289 := ((f157.ext E148).keep K176q)
          have f290 := (((((hq53_2.keep K68q nin0).ext E86).keep K110q (ninS ne96 nin0)).ext E148).keep K176q (ninS ne158 nin0))
          have f291 := (((((hq53_3.keep K68q nin0).ext E86).keep K110q (ninS ne96 nin0)).ext E148).keep K176q (ninS ne158 nin0))
          have f292 := ((f159.ext E148).keep K176q (ninS ne160 nin0))
          have f293 := ((f161.ext E148).keep K176q)
          have f294 := ((((hq68_2.ext E86).keep K110q (ninS ne99 nin0)).ext E148).keep K176q (ninS ne162 nin0))
          have f295 := ((((hq68_3.ext E86).keep K110q (ninS ne99 nin0)).ext E148).keep K176q (ninS ne162 nin0))
          have f296 := ((f163.ext E148).keep K176q (ninS ne164 nin0))
          obtain ⟨cq297, kq297, q297a, q297b, q297c⟩ := isOf hZ K182q f276
          obtain ⟨_, _, ⟨T297, L297, k297, n297⟩, -, X297, ⟨Lc297, hQ297, l297, y297, z297⟩, st297⟩ := X182.virtualBack hx (y := MN12) (z := MN12) hown (mvT hZ wo58) (mvT hZ wo59) (notFace_of_selects (args := #[]) (mvT hZ wo61)) (mvT hZ wo61) (mvT hZ wo60) (by decide) (backOf (W := 0) (rmEq l Z a0 hw [] b86 b148 r_34 b_34 tla (own_bl tla ta0 ta1) r_42 b_42 tlb (own_bl tlb tb0 tb1) r_53 b_53 bla (own_bl bla ba0 ba1) r_68 b_68 blb (own_bl blb bb0 bb1) p0_2 (if (p0_4 &&& (4 : Int32)) = (0 : Int32) then p0_2 else p0_3) cs (T176.heap) n0 f183 f275 pf_S_java_lang_String_COMPACT_STRINGS (hcs : ¬ (cs = (0 : Int32))) f276 f277 f278 hq176_0 f279 hq176_1 f280 hq176_2 f281 f282 f283 f284 (own_bll h3tla : tla = Int32.ofNat (own_bl tla ta0 ta1).length) (own_blr hrta0 hrta1 : ∀ c ∈ (own_bl tla ta0 ta1), ¬ c < 0 ∧ ¬ (255 : Int32) < c) (own_ble : (own_bl tla ta0 ta1).length ≤ 4000) f285 f286 f287 f288 (own_bll h3tlb : tlb = Int32.ofNat (own_bl tlb tb0 tb1).length) (own_blr hrtb0 hrtb1 : ∀ c ∈ (own_bl tlb tb0 tb1), ¬ c < 0 ∧ ¬ (255 : Int32) < c) (own_ble : (own_bl tlb tb0 tb1).length ≤ 4000) f289 f290 f291 f292 (own_bll h3bla : bla = Int32.ofNat (own_bl bla ba0 ba1).length) (own_blr hrba0 hrba1 : ∀ c ∈ (own_bl bla ba0 ba1), ¬ c < 0 ∧ ¬ (255 : Int32) < c) (own_ble : (own_bl bla ba0 ba1).length ≤ 4000) f293 f294 f295 f296 (own_bll h3blb : blb = Int32.ofNat (own_bl blb bb0 bb1).length) (own_blr hrbb0 hrbb1 : ∀ c ∈ (own_bl blb bb0 bb1), ¬ c < 0 ∧ ¬ (255 : Int32) < c) (own_ble : (own_bl blb bb0 bb1).length ≤ 4000)) hZ wo62 wo44 (by decide) (by decide)) q297a q297c (g := (mkF m 324 #[.val (.long p0_0), .second, .val (.long p0_1), .second, iv p0_2, iv p0_3, iv p0_4, iv tla, iv ta0, iv ta1, .val (.long (if (p0_4 &&& (1 : Int32)) = (0 : Int32) then p0_0 else ((p0_0.toUInt64 >>> ((18 : Int32) &&& 0x3f).toInt64.toUInt64).toInt64))), .second, iv tlb, iv tb0, iv tb1, iv bla, iv ba0, iv ba1, .val (.long (if (p0_4 &&& (2 : Int32)) = (0 : Int32) then p0_1 else ((p0_1.toUInt64 >>> ((18 : Int32) &&& 0x3f).toInt64.toUInt64).toInt64))), .second, iv blb, iv bb0, iv bb1, iv (if (p0_4 &&& (4 : Int32)) = (0 : Int32) then p0_2 else p0_3), rv r_34, rv r_42, rv r_53, rv r_68, rv b86, iv (((p0_4.toUInt32 >>> ((3 : Int32) &&& 31).toUInt32).toInt32) &&& (7 : Int32)), rv b148, iv (0 : Int32)] [(.ref b148), (.ref b86)])) rfl (by rw [hml]; rfl) (Steps.refl _) (argsL := [(.ref b148)]) (rest := []) (lenOf pd_5 rfl) rfl (by show 2 * 0 + _ ≤ _; exact Nat.le_of_eq rfl) (hb hby at_324) (fun _ _ => ⟨rfl, K182q, (by decide : 26 + 0 ≤ _), (by decide : 54 + 0 ≤ _)⟩)
          dsimp only [Pt.U, Pt.locs, Pt.cells, Pt.slots] at X297 l297 y297 z297 st297 hQ297
          rw [l297, y297, z297] at X297
          obtain ⟨rfl, N297q, K297q⟩ := hQ297
          have N298 := Fr.app N184 N297q
          have q299 : (if (own_bl tla ta0 ta1) = (own_bl tlb tb0 tb1) ∧ (own_bl bla ba0 ba1) = (own_bl blb bb0 bb1) ∧ p0_2 = (if (p0_4 &&& (4 : Int32)) = (0 : Int32) then p0_2 else p0_3) then (1 : Int32) else (0 : Int32)) = (0 : Int32) := if_neg (fun q => hb186 q.1)
          have f300 := (Nat.le_trans (Nat.le_trans (Nat.le_trans (Nat.le_trans (Nat.le_refl T68.heap.size) E86.1) K110q.1) E148.1) K176q.1)
          obtain ⟨fs, hr, hrun, hended, -, hW1, hW2, hW3⟩ := X297.leaveW S68 (by rw [K297q]; exact f300) (v := some (.int (1 : Int32))) (fun h => by rw [Bd.returns] at h; cases h)
          refine ⟨_, _, pre185 _ ?_, hrun, hended, _, _, rfl, ?_, hW1, hW2, hW3.mono (by decide) (by decide)⟩
          · show Steps p.tables e below (T182.setTop (mkF m 285 #[.val (.long p0_0), .second, .val (.long p0_1), .second, iv p0_2, iv p0_3, iv p0_4, iv tla, iv ta0, iv ta1, .val (.long (if (p0_4 &&& (1 : Int32)) = (0 : Int32) then p0_0 else ((p0_0.toUInt64 >>> ((18 : Int32) &&& 0x3f).toInt64.toUInt64).toInt64))), .second, iv tlb, iv tb0, iv tb1, iv bla, iv ba0, iv ba1, .val (.long (if (p0_4 &&& (2 : Int32)) = (0 : Int32) then p0_1 else ((p0_1.toUInt64 >>> ((18 : Int32) &&& 0x3f).toInt64.toUInt64).toInt64))), .second, iv blb, iv bb0, iv bb1, iv (if (p0_4 &&& (4 : Int32)) = (0 : Int32) then p0_2 else p0_3), rv r_34, rv r_42, rv r_53, rv r_68, rv b86, iv (((p0_4.toUInt32 >>> ((3 : Int32) &&& 31).toUInt32).toInt32) &&& (7 : Int32)), rv b148, .unset] [(.int (if (own_bl tla ta0 ta1) = (own_bl tlb tb0 tb1) then (1 : Int32) else (0 : Int32)))])) _
            rw [q274]
            show Steps p.tables e below (T182.setTop (mkF m 285 #[.val (.long p0_0), .second, .val (.long p0_1), .second, iv p0_2, iv p0_3, iv p0_4, iv tla, iv ta0, iv ta1, .val (.long (if (p0_4 &&& (1 : Int32)) = (0 : Int32) then p0_0 else ((p0_0.toUInt64 >>> ((18 : Int32) &&& 0x3f).toInt64.toUInt64).toInt64))), .second, iv tlb, iv tb0, iv tb1, iv bla, iv ba0, iv ba1, .val (.long (if (p0_4 &&& (2 : Int32)) = (0 : Int32) then p0_1 else ((p0_1.toUInt64 >>> ((18 : Int32) &&& 0x3f).toInt64.toUInt64).toInt64))), .second, iv blb, iv bb0, iv bb1, iv (if (p0_4 &&& (4 : Int32)) = (0 : Int32) then p0_2 else p0_3), rv r_34, rv r_42, rv r_53, rv r_68, rv b86, iv (((p0_4.toUInt32 >>> ((3 : Int32) &&& 31).toUInt32).toInt32) &&& (7 : Int32)), rv b148, .unset] [(.int (0 : Int32))])) _
            show Steps p.tables e below (T182.setTop (mkF m 285 #[.val (.long p0_0), .second, .val (.long p0_1), .second, iv p0_2, iv p0_3, iv p0_4, iv tla, iv ta0, iv ta1, .val (.long (if (p0_4 &&& (1 : Int32)) = (0 : Int32) then p0_0 else ((p0_0.toUInt64 >>> ((18 : Int32) &&& 0x3f).toInt64.toUInt64).toInt64))), .second, iv tlb, iv tb0, iv tb1, iv bla, iv ba0, iv ba1, .val (.long (if (p0_4 &&& (2 : Int32)) = (0 : Int32) then p0_1 else ((p0_1.toUInt64 >>> ((18 : Int32) &&& 0x3f).toInt64.toUInt64).toInt64))), .second, iv blb, iv bb0, iv bb1, iv (if (p0_4 &&& (4 : Int32)) = (0 : Int32) then p0_2 else p0_3), rv r_34, rv r_42, rv r_53, rv r_68, rv b86, iv (((p0_4.toUInt32 >>> ((3 : Int32) &&& 31).toUInt32).toInt32) &&& (7 : Int32)), rv b148, .unset] [(.int (0 : Int32))])) _
            refine XS.ifYes X182.here hx rfl (pc0 := 285) (pc' := 317) rfl (hb hby at_285) rfl ((if0 _ _).trans (teq (by decide : (0 : Int32) = (0 : Int32))).1) (by decide) (by decide) ?_
            show Steps p.tables e below (T182.setTop (mkF m 317 #[.val (.long p0_0), .second, .val (.long p0_1), .second, iv p0_2, iv p0_3, iv p0_4, iv tla, iv ta0, iv ta1, .val (.long (if (p0_4 &&& (1 : Int32)) = (0 : Int32) then p0_0 else ((p0_0.toUInt64 >>> ((18 : Int32) &&& 0x3f).toInt64.toUInt64).toInt64))), .second, iv tlb, iv tb0, iv tb1, iv bla, iv ba0, iv ba1, .val (.long (if (p0_4 &&& (2 : Int32)) = (0 : Int32) then p0_1 else ((p0_1.toUInt64 >>> ((18 : Int32) &&& 0x3f).toInt64.toUInt64).toInt64))), .second, iv blb, iv bb0, iv bb1, iv (if (p0_4 &&& (4 : Int32)) = (0 : Int32) then p0_2 else p0_3), rv r_34, rv r_42, rv r_53, rv r_68, rv b86, iv (((p0_4.toUInt32 >>> ((3 : Int32) &&& 31).toUInt32).toInt32) &&& (7 : Int32)), rv b148, .unset] [])) _
            refine XS.iconst X182.here hx rfl (hb hby at_317) ?_
            show Steps p.tables e below (T182.setTop (mkF m 318 #[.val (.long p0_0), .second, .val (.long p0_1), .second, iv p0_2, iv p0_3, iv p0_4, iv tla, iv ta0, iv ta1, .val (.long (if (p0_4 &&& (1 : Int32)) = (0 : Int32) then p0_0 else ((p0_0.toUInt64 >>> ((18 : Int32) &&& 0x3f).toInt64.toUInt64).toInt64))), .second, iv tlb, iv tb0, iv tb1, iv bla, iv ba0, iv ba1, .val (.long (if (p0_4 &&& (2 : Int32)) = (0 : Int32) then p0_1 else ((p0_1.toUInt64 >>> ((18 : Int32) &&& 0x3f).toInt64.toUInt64).toInt64))), .second, iv blb, iv bb0, iv bb1, iv (if (p0_4 &&& (4 : Int32)) = (0 : Int32) then p0_2 else p0_3), rv r_34, rv r_42, rv r_53, rv r_68, rv b86, iv (((p0_4.toUInt32 >>> ((3 : Int32) &&& 31).toUInt32).toInt32) &&& (7 : Int32)), rv b148, .unset] [(.int (0 : Int32))])) _
            refine XS.istore X182.here hx rfl (hb hby at_318) rfl (l' := #[.val (.long p0_0), .second, .val (.long p0_1), .second, iv p0_2, iv p0_3, iv p0_4, iv tla, iv ta0, iv ta1, .val (.long (if (p0_4 &&& (1 : Int32)) = (0 : Int32) then p0_0 else ((p0_0.toUInt64 >>> ((18 : Int32) &&& 0x3f).toInt64.toUInt64).toInt64))), .second, iv tlb, iv tb0, iv tb1, iv bla, iv ba0, iv ba1, .val (.long (if (p0_4 &&& (2 : Int32)) = (0 : Int32) then p0_1 else ((p0_1.toUInt64 >>> ((18 : Int32) &&& 0x3f).toInt64.toUInt64).toInt64))), .second, iv blb, iv bb0, iv bb1, iv (if (p0_4 &&& (4 : Int32)) = (0 : Int32) then p0_2 else p0_3), rv r_34, rv r_42, rv r_53, rv r_68, rv b86, iv (((p0_4.toUInt32 >>> ((3 : Int32) &&& 31).toUInt32).toInt32) &&& (7 : Int32)), rv b148, iv (0 : Int32)]) rfl ?_
            show Steps p.tables e below (T182.setTop (mkF m 320 #[.val (.long p0_0), .second, .val (.long p0_1), .second, iv p0_2, iv p0_3, iv p0_4, iv tla, iv ta0, iv ta1, .val (.long (if (p0_4 &&& (1 : Int32)) = (0 : Int32) then p0_0 else ((p0_0.toUInt64 >>> ((18 : Int32) &&& 0x3f).toInt64.toUInt64).toInt64))), .second, iv tlb, iv tb0, iv tb1, iv bla, iv ba0, iv ba1, .val (.long (if (p0_4 &&& (2 : Int32)) = (0 : Int32) then p0_1 else ((p0_1.toUInt64 >>> ((18 : Int32) &&& 0x3f).toInt64.toUInt64).toInt64))), .second, iv blb, iv bb0, iv bb1, iv (if (p0_4 &&& (4 : Int32)) = (0 : Int32) then p0_2 else p0_3), rv r_34, rv r_42, rv r_53, rv r_68, rv b86, iv (((p0_4.toUInt32 >>> ((3 : Int32) &&& 31).toUInt32).toInt32) &&& (7 : Int32)), rv b148, iv (0 : Int32)] [])) _
            refine XS.aload X182.here hx rfl (hb hby at_320) rfl rfl ?_
            show Steps p.tables e below (T182.setTop (mkF m 322 #[.val (.long p0_0), .second, .val (.long p0_1), .second, iv p0_2, iv p0_3, iv p0_4, iv tla, iv ta0, iv ta1, .val (.long (if (p0_4 &&& (1 : Int32)) = (0 : Int32) then p0_0 else ((p0_0.toUInt64 >>> ((18 : Int32) &&& 0x3f).toInt64.toUInt64).toInt64))), .second, iv tlb, iv tb0, iv tb1, iv bla, iv ba0, iv ba1, .val (.long (if (p0_4 &&& (2 : Int32)) = (0 : Int32) then p0_1 else ((p0_1.toUInt64 >>> ((18 : Int32) &&& 0x3f).toInt64.toUInt64).toInt64))), .second, iv blb, iv bb0, iv bb1, iv (if (p0_4 &&& (4 : Int32)) = (0 : Int32) then p0_2 else p0_3), rv r_34, rv r_42, rv r_53, rv r_68, rv b86, iv (((p0_4.toUInt32 >>> ((3 : Int32) &&& 31).toUInt32).toInt32) &&& (7 : Int32)), rv b148, iv (0 : Int32)] [(.ref b86)])) _
            refine XS.aload X182.here hx rfl (hb hby at_322) rfl rfl ?_
            show Steps p.tables e below (T182.setTop (mkF m 324 #[.val (.long p0_0), .second, .val (.long p0_1), .second, iv p0_2, iv p0_3, iv p0_4, iv tla, iv ta0, iv ta1, .val (.long (if (p0_4 &&& (1 : Int32)) = (0 : Int32) then p0_0 else ((p0_0.toUInt64 >>> ((18 : Int32) &&& 0x3f).toInt64.toUInt64).toInt64))), .second, iv tlb, iv tb0, iv tb1, iv bla, iv ba0, iv ba1, .val (.long (if (p0_4 &&& (2 : Int32)) = (0 : Int32) then p0_1 else ((p0_1.toUInt64 >>> ((18 : Int32) &&& 0x3f).toInt64.toUInt64).toInt64))), .second, iv blb, iv bb0, iv bb1, iv (if (p0_4 &&& (4 : Int32)) = (0 : Int32) then p0_2 else p0_3), rv r_34, rv r_42, rv r_53, rv r_68, rv b86, iv (((p0_4.toUInt32 >>> ((3 : Int32) &&& 31).toUInt32).toInt32) &&& (7 : Int32)), rv b148, iv (0 : Int32)] [(.ref b148), (.ref b86)])) _
            refine st297.trans ?_
            show Steps p.tables e below (T297.setTop (mkF m 327 #[.val (.long p0_0), .second, .val (.long p0_1), .second, iv p0_2, iv p0_3, iv p0_4, iv tla, iv ta0, iv ta1, .val (.long (if (p0_4 &&& (1 : Int32)) = (0 : Int32) then p0_0 else ((p0_0.toUInt64 >>> ((18 : Int32) &&& 0x3f).toInt64.toUInt64).toInt64))), .second, iv tlb, iv tb0, iv tb1, iv bla, iv ba0, iv ba1, .val (.long (if (p0_4 &&& (2 : Int32)) = (0 : Int32) then p0_1 else ((p0_1.toUInt64 >>> ((18 : Int32) &&& 0x3f).toInt64.toUInt64).toInt64))), .second, iv blb, iv bb0, iv bb1, iv (if (p0_4 &&& (4 : Int32)) = (0 : Int32) then p0_2 else p0_3), rv r_34, rv r_42, rv r_53, rv r_68, rv b86, iv (((p0_4.toUInt32 >>> ((3 : Int32) &&& 31).toUInt32).toInt32) &&& (7 : Int32)), rv b148, iv (0 : Int32)] [(.int (if (own_bl tla ta0 ta1) = (own_bl tlb tb0 tb1) ∧ (own_bl bla ba0 ba1) = (own_bl blb bb0 bb1) ∧ p0_2 = (if (p0_4 &&& (4 : Int32)) = (0 : Int32) then p0_2 else p0_3) then (1 : Int32) else (0 : Int32)))])) _
            rw [q299]
            show Steps p.tables e below (T297.setTop (mkF m 327 #[.val (.long p0_0), .second, .val (.long p0_1), .second, iv p0_2, iv p0_3, iv p0_4, iv tla, iv ta0, iv ta1, .val (.long (if (p0_4 &&& (1 : Int32)) = (0 : Int32) then p0_0 else ((p0_0.toUInt64 >>> ((18 : Int32) &&& 0x3f).toInt64.toUInt64).toInt64))), .second, iv tlb, iv tb0, iv tb1, iv bla, iv ba0, iv ba1, .val (.long (if (p0_4 &&& (2 : Int32)) = (0 : Int32) then p0_1 else ((p0_1.toUInt64 >>> ((18 : Int32) &&& 0x3f).toInt64.toUInt64).toInt64))), .second, iv blb, iv bb0, iv bb1, iv (if (p0_4 &&& (4 : Int32)) = (0 : Int32) then p0_2 else p0_3), rv r_34, rv r_42, rv r_53, rv r_68, rv b86, iv (((p0_4.toUInt32 >>> ((3 : Int32) &&& 31).toUInt32).toInt32) &&& (7 : Int32)), rv b148, iv (0 : Int32)] [(.int (0 : Int32))])) _
            show Steps p.tables e below (T297.setTop (mkF m 327 #[.val (.long p0_0), .second, .val (.long p0_1), .second, iv p0_2, iv p0_3, iv p0_4, iv tla, iv ta0, iv ta1, .val (.long (if (p0_4 &&& (1 : Int32)) = (0 : Int32) then p0_0 else ((p0_0.toUInt64 >>> ((18 : Int32) &&& 0x3f).toInt64.toUInt64).toInt64))), .second, iv tlb, iv tb0, iv tb1, iv bla, iv ba0, iv ba1, .val (.long (if (p0_4 &&& (2 : Int32)) = (0 : Int32) then p0_1 else ((p0_1.toUInt64 >>> ((18 : Int32) &&& 0x3f).toInt64.toUInt64).toInt64))), .second, iv blb, iv bb0, iv bb1, iv (if (p0_4 &&& (4 : Int32)) = (0 : Int32) then p0_2 else p0_3), rv r_34, rv r_42, rv r_53, rv r_68, rv b86, iv (((p0_4.toUInt32 >>> ((3 : Int32) &&& 31).toUInt32).toInt32) &&& (7 : Int32)), rv b148, iv (0 : Int32)] [(.int (0 : Int32))])) _
            refine XS.iload X297.here hx rfl (hb hby at_327) rfl ?_
            show Steps p.tables e below (T297.setTop (mkF m 329 #[.val (.long p0_0), .second, .val (.long p0_1), .second, iv p0_2, iv p0_3, iv p0_4, iv tla, iv ta0, iv ta1, .val (.long (if (p0_4 &&& (1 : Int32)) = (0 : Int32) then p0_0 else ((p0_0.toUInt64 >>> ((18 : Int32) &&& 0x3f).toInt64.toUInt64).toInt64))), .second, iv tlb, iv tb0, iv tb1, iv bla, iv ba0, iv ba1, .val (.long (if (p0_4 &&& (2 : Int32)) = (0 : Int32) then p0_1 else ((p0_1.toUInt64 >>> ((18 : Int32) &&& 0x3f).toInt64.toUInt64).toInt64))), .second, iv blb, iv bb0, iv bb1, iv (if (p0_4 &&& (4 : Int32)) = (0 : Int32) then p0_2 else p0_3), rv r_34, rv r_42, rv r_53, rv r_68, rv b86, iv (((p0_4.toUInt32 >>> ((3 : Int32) &&& 31).toUInt32).toInt32) &&& (7 : Int32)), rv b148, iv (0 : Int32)] [(.int (0 : Int32)), (.int (0 : Int32))])) _
            refine XS.icmpNo X297.here hx rfl (hb hby at_329) rfl (teq (by decide : (0 : Int32) = (0 : Int32))).2 ?_
            show Steps p.tables e below (T297.setTop (mkF m 332 #[.val (.long p0_0), .second, .val (.long p0_1), .second, iv p0_2, iv p0_3, iv p0_4, iv tla, iv ta0, iv ta1, .val (.long (if (p0_4 &&& (1 : Int32)) = (0 : Int32) then p0_0 else ((p0_0.toUInt64 >>> ((18 : Int32) &&& 0x3f).toInt64.toUInt64).toInt64))), .second, iv tlb, iv tb0, iv tb1, iv bla, iv ba0, iv ba1, .val (.long (if (p0_4 &&& (2 : Int32)) = (0 : Int32) then p0_1 else ((p0_1.toUInt64 >>> ((18 : Int32) &&& 0x3f).toInt64.toUInt64).toInt64))), .second, iv blb, iv bb0, iv bb1, iv (if (p0_4 &&& (4 : Int32)) = (0 : Int32) then p0_2 else p0_3), rv r_34, rv r_42, rv r_53, rv r_68, rv b86, iv (((p0_4.toUInt32 >>> ((3 : Int32) &&& 31).toUInt32).toInt32) &&& (7 : Int32)), rv b148, iv (0 : Int32)] [])) _
            refine XS.iconst X297.here hx rfl (hb hby at_332) ?_
            show Steps p.tables e below (T297.setTop (mkF m 333 #[.val (.long p0_0), .second, .val (.long p0_1), .second, iv p0_2, iv p0_3, iv p0_4, iv tla, iv ta0, iv ta1, .val (.long (if (p0_4 &&& (1 : Int32)) = (0 : Int32) then p0_0 else ((p0_0.toUInt64 >>> ((18 : Int32) &&& 0x3f).toInt64.toUInt64).toInt64))), .second, iv tlb, iv tb0, iv tb1, iv bla, iv ba0, iv ba1, .val (.long (if (p0_4 &&& (2 : Int32)) = (0 : Int32) then p0_1 else ((p0_1.toUInt64 >>> ((18 : Int32) &&& 0x3f).toInt64.toUInt64).toInt64))), .second, iv blb, iv bb0, iv bb1, iv (if (p0_4 &&& (4 : Int32)) = (0 : Int32) then p0_2 else p0_3), rv r_34, rv r_42, rv r_53, rv r_68, rv b86, iv (((p0_4.toUInt32 >>> ((3 : Int32) &&& 31).toUInt32).toInt32) &&& (7 : Int32)), rv b148, iv (0 : Int32)] [(.int (1 : Int32))])) _
            refine XS.goto X297.here hx rfl (pc0 := 333) (pc' := 337) rfl (hb hby at_333) (by decide) (by decide) ?_
            show Steps p.tables e below (T297.setTop (mkF m 337 #[.val (.long p0_0), .second, .val (.long p0_1), .second, iv p0_2, iv p0_3, iv p0_4, iv tla, iv ta0, iv ta1, .val (.long (if (p0_4 &&& (1 : Int32)) = (0 : Int32) then p0_0 else ((p0_0.toUInt64 >>> ((18 : Int32) &&& 0x3f).toInt64.toUInt64).toInt64))), .second, iv tlb, iv tb0, iv tb1, iv bla, iv ba0, iv ba1, .val (.long (if (p0_4 &&& (2 : Int32)) = (0 : Int32) then p0_1 else ((p0_1.toUInt64 >>> ((18 : Int32) &&& 0x3f).toInt64.toUInt64).toInt64))), .second, iv blb, iv bb0, iv bb1, iv (if (p0_4 &&& (4 : Int32)) = (0 : Int32) then p0_2 else p0_3), rv r_34, rv r_42, rv r_53, rv r_68, rv b86, iv (((p0_4.toUInt32 >>> ((3 : Int32) &&& 31).toUInt32).toInt32) &&& (7 : Int32)), rv b148, iv (0 : Int32)] [(.int (1 : Int32))])) _
            exact retN X297 hx (t := .boolean) Bd.returns (by simp) (hb hby at_337) hr
          · show Q_rm0 Z _ _ _ _ _ _ h0 n0 _ T297.heap _
            rw [K297q]
            exact ⟨rfl, N298, (K181)⟩
set_option maxRecDepth 65536 in
set_option maxHeartbeats 40000000 in
theorem comes_1 {Post : Tables → Env → Array Value → State → Outcome → State → Prop} (hpost : ∀ tb e args s v u, (limb_1_1.after args s (.returned v) u = true ∧ limb_1_2.after args s (.returned v) u = true ∧ True) → FramedW s (.returned v) u (Jvm.fieldLocs frame_1_writes args s ++ Jvm.arrayLocs frame_1_arrays args s ++ Jvm.staticLocs frame_1_statics s) 40 1216 → Post tb e args s (.returned v) u) :
    ArmFor flags0 classFile x code maxLocals ret World_1 tables_1 room_1 Calls_1 rest_1 Pre_1 Post := by
  intro l hfl _ _ p e ha hc hk s m args below hf hA hF happ hP
  obtain ⟨hcalls, hrest, hpre⟩ := hP
  obtain ⟨-, -, -, hnamed, -, -, -, hat⟩ := (Spec.applies_iff hf).mp happ
  obtain ⟨hg, hn⟩ := and_e (Cond.before_iff.mp (show (Jvm.Cond.and given_1 narrow_1).before args s = true from hpre))
  obtain ⟨g1, g2⟩ := and_e hg
  obtain ⟨g3, g4⟩ := and_e g2
  obtain ⟨g5, g6⟩ := and_e g4
  obtain ⟨g7, g8⟩ := and_e g6
  obtain ⟨g9, g10⟩ := and_e g8
  obtain ⟨w0, w1, w2, w3, w4, rfl⟩ : ∃ w0 w1 w2 w3 w4 : Value, args = #[w0, w1, w2, w3, w4] := by
    have hs : args.size = 5 := by simpa [Cond.value, given_1] using g1
    obtain ⟨L⟩ := args
    match L, hs with
    | [w0, w1, w2, w3, w4], _ => exact ⟨w0, w1, w2, w3, w4, rfl⟩
  have hw := fun d (hd : d ∈ tables_1) => atoms_spec (ws := Jvm.Cond.code x code maxLocals ret :: tables_1) hat d (List.mem_cons_of_mem _ hd)
  have hfit : Fit s := fun {y c} hc i hi => by
    obtain ⟨ha, rfl⟩ := Array.getElem?_eq_some_iff.mp hc
    have q := List.all_eq_true.mp ((Array.all_eq_true_iff_forall_mem.mp hF) _ (Array.getElem_mem ha)) i (List.mem_range.mpr hi)
    simpa [Array.getElem?_eq_getElem hi] using q
  obtain ⟨hsets, hown0⟩ := atoms_of _ (rest_1_c_eq ▸ (show rest_1_c.before _ s = true from hrest))
  have hr0 := Cond.before_iff.mp hown0
  obtain ⟨i0, ei0⟩ := isL_v g3
  obtain rfl : w0 = (.long i0) := Option.some.inj ei0
  obtain ⟨i1, ei1⟩ := isL_v g5
  obtain rfl : w1 = (.long i1) := Option.some.inj ei1
  obtain ⟨i2, ei2⟩ := is_v g7
  obtain rfl : w2 = (.int i2) := Option.some.inj ei2
  obtain ⟨i3, ei3⟩ := is_v g9
  obtain rfl : w3 = (.int i3) := Option.some.inj ei3
  obtain ⟨i4, ei4⟩ := is_v g10
  obtain rfl : w4 = (.int i4) := Option.some.inj ei4
  obtain ⟨cs, ecs⟩ := is_v (Cond.before_iff.mp (hsets _ (List.mem_of_getElem? (i := 1) rfl)))
  have S_cs : Sta s s.heap "java/lang/String" "COMPACT_STRINGS" "Z" (.int cs) := Sta.start ecs (Or.inl (hsets _ (List.mem_of_getElem? (i := 0) rfl)))
  have hcs := own_nz (Cond.before_iff.mp (hsets _ (List.mem_of_getElem? (i := 2) rfl))) ecs
  obtain ⟨n, o, h1, h2, h3, _, L, rfl, ⟨rfl, N, -⟩, hq⟩ := rm0 l s _ hw tables_1 i0 i1 i2 i3 i4 cs s.heap s.heap.size (Nat.le_refl _) (Old.start s) S_cs hcs p e ha hc hk s m _ below hf ((Spec.applies_iff_loose hf).mp happ).1 ⟨rfl, State.Warmed39.refl s, rfl, CHv.start (own_EW hw) hcalls.1 (hsets _ (List.mem_of_getElem? (i := 2) rfl)) (hw _ (by decide +kernel)) (hw _ (List.mem_of_getElem? (i := 13) rfl))⟩ trivial
  refine ⟨n, _, h1, h2, h3, hpost _ _ _ _ _ _ ⟨Cond.after_iff.mpr rfl, Cond.after_iff.mpr (eq_i res_at (Term.int_eval (1)) rfl), trivial⟩ ⟨⟨_, rfl⟩, hq.1, hq.2.1, (hq.2.2.sift fun y hy => Or.inr (N y hy)).mono (by decide) (by decide)⟩⟩
theorem main_1_1 : Claimed_1_1 := comes_1 fun _ _ _ _ _ _ h hF => ⟨h.1, hF⟩
theorem main_1_2 : Claimed_1_2 := comes_1 fun _ _ _ _ _ _ h hF => ⟨h.2.1, hF⟩
end Jvm.Pilot.@@N@@
namespace Jvm.Pilot.@@N@@
open Jvm Jvm.ClassFile Sem Op Lib Jvm.Free Jvm.Stand Jvm.Pilot.@@N@@.Jvm.D
/-! MADE BY PROGRAM (witnessworld.py) out of the Statement's table words and the real class files: 20 classes; the members and pool entries that the words name. The judged class is class 1, her method 5. -/
namespace start1
open Jvm.ClassFile
def u (s : String) : CpInfo := .utf8 (stringToUtf16 s)
/-- a pool by its gaps: so many unusable entries, then the entry; so many at the end -/
def gap : Nat → List CpInfo → List CpInfo
  | 0, r => r
  | n + 1, r => .unusable :: gap n r
def poolList (es : List (Nat × CpInfo)) (last : Nat) : List CpInfo := es.foldr (fun e r => gap e.1 (e.2 :: r)) (gap last [])
def pool (es : List (Nat × CpInfo)) (last : Nat) : Array CpInfo := ⟨poolList es last⟩
def fileOf (pool : Array CpInfo) (this : Nat) (attrs : Array Attribute := #[]) (ms : Array MethodInfo := #[]) (fl : Nat := 33) (sup : Nat := 0) (ifs : Array Nat := #[]) (fds : Array FieldInfo := #[]) : ClassFile where
  minorVersion := 0
  majorVersion := 65
  constantPool := pool
  accessFlags := fl
  thisClass := this
  superClass := sup
  interfaces := ifs
  fields := fds
  methods := ms
  attributes := attrs
def plain (name : String) (sup : Option ClassId) : Class where
  name := name
  kind := .ordinary
  loader := none
  accessFlags := 33
  super := sup
  interfaces := #[]
  cf := none
  fields := #[]
  methods := #[]
  instanceTypes := #[]
  staticTypes := #[]
  resolved := #[]
  callSites := []
  init := .initialized
  statics := none
  mirror := none

def pool0 : Array CpInfo := pool [(5, u "<init>"), (0, u "()V"), (1, .class_ 10), (1, u "java/lang/Object")] 113

def k0c0 : Code := { maxStack := 0, maxLocals := 1, code := object_method_1_code, exceptionTable := #[], attributes := #[] }
def k0m0 : Method := { name := "<init>", desc := "()V", sig := { parameters := [], returnType := none }, accessFlags := 1, code := some k0c0 }
/-- java/lang/Object -/
def k0 : Class := { plain "java/lang/Object" none with
  accessFlags := 33
  interfaces := #[]
  cf := some (fileOf pool0 8 #[] #[{ accessFlags := 1, nameIndex := 5, descriptorIndex := 6, attributes := #[] }] 33 0 #[] #[])
  fields := #[]
  methods := #[k0m0]
  instanceTypes := #[]
  staticTypes := #[]
  resolved := Array.replicate 124 none
  statics := none }

def pool1 : Array CpInfo := pool [(2, .class_ 4), (1, u "java/lang/Object"), (0, u "<init>"), (0, u "()V"), (0, .long 3), (1, .long 255), (1, .class_ 12), (0, u "java/lang/String"), (0, .methodref 11 14), (0, .nameAndType 5 15), (0, u "([C)V"), (0, .methodref 17 18), (0, .class_ 19), (0, .nameAndType 20 21), (0, u "com/example/topiq/topiq/protocol/MessageQueueEqualsPinLaw"), (0, u "len"), (0, u "(J)I"), (0, .methodref 17 23), (0, .nameAndType 24 25), (0, u "ch"), (0, u "(JI)I"), (0, .methodref 17 27), (0, .nameAndType 28 29), (0, u "mk"), (0, u "(III)Ljava/lang/String;"), (0, .class_ 31), (0, u "com/example/topiq/topiq/protocol/MessageQueue"), (0, .methodref 30 33), (0, .nameAndType 5 34), (0, u "(Ljava/lang/String;Ljava/lang/String;I)V"), (0, .methodref 17 36), (0, .nameAndType 37 38), (0, u "same"), (0, u "(IIIIII)Z"), (0, .methodref 30 40), (0, .nameAndType 41 42), (0, u "equals"), (0, u "(Ljava/lang/Object;)Z"), (3, u "law"), (0, u "(JJIII)Z")] 2

def k1m0 : Method := { name := "<init>", desc := "()V", sig := { parameters := [], returnType := none }, accessFlags := 2, code := none }
def k1c1 : Code := { maxStack := 4, maxLocals := 3, code := method_2_code, exceptionTable := #[], attributes := #[] }
def k1m1 : Method := { name := "len", desc := "(J)I", sig := { parameters := [.long], returnType := some .int }, accessFlags := 10, code := some k1c1 }
def k1c2 : Code := { maxStack := 4, maxLocals := 3, code := method_3_code, exceptionTable := #[], attributes := #[] }
def k1m2 : Method := { name := "ch", desc := "(JI)I", sig := { parameters := [.long, .int], returnType := some .int }, accessFlags := 10, code := some k1c2 }
def k1c3 : Code := { maxStack := 6, maxLocals := 3, code := method_4_code, exceptionTable := #[], attributes := #[] }
def k1m3 : Method := { name := "mk", desc := "(III)Ljava/lang/String;", sig := { parameters := [.int, .int, .int], returnType := some (.object "java/lang/String") }, accessFlags := 10, code := some k1c3 }
def k1c4 : Code := { maxStack := 2, maxLocals := 6, code := method_5_code, exceptionTable := #[], attributes := #[] }
def k1m4 : Method := { name := "same", desc := "(IIIIII)Z", sig := { parameters := [.int, .int, .int, .int, .int, .int], returnType := some .boolean }, accessFlags := 10, code := some k1c4 }
def k1c5 : Code := { maxStack := 6, maxLocals := 32, code := code, exceptionTable := #[], attributes := #[] }
def k1m5 : Method := { name := "law", desc := "(JJIII)Z", sig := { parameters := [.long, .long, .int, .int, .int], returnType := some .boolean }, accessFlags := 9, code := some k1c5 }
/-- com/example/topiq/topiq/protocol/MessageQueueEqualsPinLaw -/
def k1 : Class := { plain "com/example/topiq/topiq/protocol/MessageQueueEqualsPinLaw" (some 0) with
  accessFlags := 49
  interfaces := #[]
  cf := some (fileOf pool1 17 #[] #[{ accessFlags := 2, nameIndex := 5, descriptorIndex := 6, attributes := #[] }, { accessFlags := 10, nameIndex := 20, descriptorIndex := 21, attributes := #[] }, { accessFlags := 10, nameIndex := 24, descriptorIndex := 25, attributes := #[] }, { accessFlags := 10, nameIndex := 28, descriptorIndex := 29, attributes := #[] }, { accessFlags := 10, nameIndex := 37, descriptorIndex := 38, attributes := #[] }, { accessFlags := 9, nameIndex := 46, descriptorIndex := 47, attributes := #[] }] 49 2 #[] #[])
  fields := #[]
  methods := #[k1m0, k1m1, k1m2, k1m3, k1m4, k1m5]
  instanceTypes := #[]
  staticTypes := #[]
  resolved := Array.replicate 50 none
  statics := none }

def pool2 : Array CpInfo := pool [(1, .class_ 2), (0, u "java/io/Serializable"), (0, .class_ 4), (0, u "java/lang/Object")] 2

/-- java/io/Serializable -/
def k2 : Class := { plain "java/io/Serializable" (some 0) with
  accessFlags := 1537
  interfaces := #[]
  cf := some (fileOf pool2 1 #[] #[] 1537 3 #[] #[])
  fields := #[]
  methods := #[]
  instanceTypes := #[]
  staticTypes := #[]
  resolved := Array.replicate 7 none
  statics := none }

def pool3 : Array CpInfo := pool [(1, .class_ 2), (0, u "java/lang/Comparable"), (0, .class_ 4), (0, u "java/lang/Object")] 7

/-- java/lang/Comparable -/
def k3 : Class := { plain "java/lang/Comparable" (some 0) with
  accessFlags := 1537
  interfaces := #[]
  cf := some (fileOf pool3 1 #[] #[] 1537 3 #[] #[])
  fields := #[]
  methods := #[]
  instanceTypes := #[]
  staticTypes := #[]
  resolved := Array.replicate 12 none
  statics := none }

def pool4 : Array CpInfo := pool [(2, .class_ 4), (1, u "java/lang/CharSequence"), (42, .class_ 48), (0, u "java/lang/CharSequence$1CodePointIterator"), (10, .class_ 60), (0, u "java/lang/CharSequence$1CharIterator"), (5, .class_ 67), (0, u "java/lang/Object")] 63

/-- java/lang/CharSequence -/
def k4 : Class := { plain "java/lang/CharSequence" (some 0) with
  accessFlags := 1537
  interfaces := #[]
  cf := some (fileOf pool4 2 #[.nestMembers #[47, 59]] #[] 1537 66 #[] #[])
  fields := #[]
  methods := #[]
  instanceTypes := #[]
  staticTypes := #[]
  resolved := Array.replicate 131 none
  statics := none }

def pool5 : Array CpInfo := pool [(1, .class_ 2), (0, u "java/lang/constant/Constable"), (0, .class_ 4), (0, u "java/lang/Object")] 6

/-- java/lang/constant/Constable -/
def k5 : Class := { plain "java/lang/constant/Constable" (some 0) with
  accessFlags := 1537
  interfaces := #[]
  cf := some (fileOf pool5 1 #[] #[] 1537 3 #[] #[])
  fields := #[]
  methods := #[]
  instanceTypes := #[]
  staticTypes := #[]
  resolved := Array.replicate 11 none
  statics := none }

def pool6 : Array CpInfo := pool [(1, .class_ 2), (0, u "java/lang/constant/ConstantDesc"), (0, .class_ 4), (0, u "java/lang/Object")] 32

/-- java/lang/constant/ConstantDesc -/
def k6 : Class := { plain "java/lang/constant/ConstantDesc" (some 0) with
  accessFlags := 1537
  interfaces := #[]
  cf := some (fileOf pool6 1 #[] #[] 1537 3 #[] #[])
  fields := #[]
  methods := #[]
  instanceTypes := #[]
  staticTypes := #[]
  resolved := Array.replicate 37 none
  statics := none }

def pool7 : Array CpInfo := pool [(1, .methodref 2 3), (0, .class_ 4), (0, .nameAndType 5 6), (0, u "java/lang/Object"), (0, u "<init>"), (0, u "()V"), (0, .string 8), (0, u ""), (0, .fieldref 10 11), (0, .class_ 12), (0, .nameAndType 13 14), (0, u "java/lang/String"), (0, u "value"), (0, u "[B"), (0, .fieldref 10 16), (0, .nameAndType 17 18), (0, u "coder"), (0, u "B"), (2, u "hash"), (0, u "I"), (2, u "hashIsZero"), (0, u "Z"), (0, .methodref 10 28), (0, .nameAndType 5 29), (0, u "([CIILjava/lang/Void;)V"), (8, .fieldref 10 39), (0, .nameAndType 40 26), (0, u "COMPACT_STRINGS"), (1, .class_ 44), (1, u "java/lang/StringUTF16"), (0, u "compress"), (1, .methodref 42 48), (0, .nameAndType 49 50), (0, u "coderFromArrayLen"), (0, u "([BI)B"), (56, .class_ 109), (1, u "java/lang/StringLatin1"), (67, .methodref 42 178), (0, .nameAndType 45 179), (0, u "([CII)[B"), (361, .methodref 107 542), (0, .nameAndType 543 544), (0, u "equals"), (0, u "([B[B)Z"), (28, u "(Ljava/lang/Object;)Z"), (1, .class_ 576), (0, u "java/lang/CharSequence"), (22, u "CASE_INSENSITIVE_ORDER"), (0, u "Ljava/util/Comparator;"), (409, u "([C)V"), (90, u "serialPersistentFields"), (0, u "[Ljava/io/ObjectStreamField;"), (0, .class_ 1104), (0, u "java/lang/String$CaseInsensitiveComparator"), (1, .class_ 1107), (0, u "java/io/Serializable"), (0, .class_ 1109), (0, u "java/lang/Comparable"), (0, .class_ 1111), (0, u "java/lang/constant/Constable"), (0, .class_ 1113), (0, u "java/lang/constant/ConstantDesc"), (2, u "serialVersionUID"), (0, u "J"), (3, u "REPL"), (0, u "C"), (2, u "LATIN1"), (1, u "UTF16")] 323

def k7m0 : Method := { name := "<init>", desc := "()V", sig := { parameters := [], returnType := none }, accessFlags := 1, code := none }
def k7c1 : Code := { maxStack := 5, maxLocals := 2, code := jdk_42_method_3_code, exceptionTable := #[], attributes := #[] }
def k7m1 : Method := { name := "<init>", desc := "([C)V", sig := { parameters := [(.array .char)], returnType := none }, accessFlags := 1, code := some k7c1 }
def k7c2 : Code := { maxStack := 2, maxLocals := 3, code := jdk_42_method_66_code, exceptionTable := #[], attributes := #[] }
def k7m2 : Method := { name := "equals", desc := "(Ljava/lang/Object;)Z", sig := { parameters := [(.object "java/lang/Object")], returnType := some .boolean }, accessFlags := 1, code := some k7c2 }
def k7c3 : Code := { maxStack := 4, maxLocals := 6, code := jdk_42_method_149_code, exceptionTable := #[], attributes := #[] }
def k7m3 : Method := { name := "<init>", desc := "([CIILjava/lang/Void;)V", sig := { parameters := [(.array .char), .int, .int, (.object "java/lang/Void")], returnType := none }, accessFlags := 2, code := some k7c3 }
/-- java/lang/String -/
def k7 : Class := { plain "java/lang/String" (some 0) with
  accessFlags := 49
  interfaces := #[2, 3, 4, 5, 6]
  cf := some (fileOf pool7 10 #[.nestMembers #[1103]] #[{ accessFlags := 1, nameIndex := 5, descriptorIndex := 6, attributes := #[] }, { accessFlags := 1, nameIndex := 5, descriptorIndex := 1010, attributes := #[] }, { accessFlags := 1, nameIndex := 543, descriptorIndex := 573, attributes := #[] }, { accessFlags := 2, nameIndex := 5, descriptorIndex := 29, attributes := #[] }] 49 2 #[1106, 1108, 575, 1110, 1112] #[{ accessFlags := 18, nameIndex := 13, descriptorIndex := 14, attributes := #[] }, { accessFlags := 18, nameIndex := 17, descriptorIndex := 18, attributes := #[] }, { accessFlags := 2, nameIndex := 21, descriptorIndex := 22, attributes := #[] }, { accessFlags := 2, nameIndex := 25, descriptorIndex := 26, attributes := #[] }, { accessFlags := 26, nameIndex := 1116, descriptorIndex := 1117, attributes := #[] }, { accessFlags := 24, nameIndex := 40, descriptorIndex := 26, attributes := #[] }, { accessFlags := 26, nameIndex := 1101, descriptorIndex := 1102, attributes := #[] }, { accessFlags := 26, nameIndex := 1121, descriptorIndex := 1122, attributes := #[] }, { accessFlags := 25, nameIndex := 599, descriptorIndex := 600, attributes := #[] }, { accessFlags := 24, nameIndex := 1125, descriptorIndex := 18, attributes := #[] }, { accessFlags := 24, nameIndex := 1127, descriptorIndex := 18, attributes := #[] }])
  fields := #[{ name := "value", type := (.array .byte), accessFlags := 18, slot := 0, constantValue := 0 }, { name := "coder", type := .byte, accessFlags := 18, slot := 1, constantValue := 0 }, { name := "hash", type := .int, accessFlags := 2, slot := 2, constantValue := 0 }, { name := "hashIsZero", type := .boolean, accessFlags := 2, slot := 3, constantValue := 0 }, { name := "serialVersionUID", type := .long, accessFlags := 26, slot := 0, constantValue := 0 }, { name := "COMPACT_STRINGS", type := .boolean, accessFlags := 24, slot := 1, constantValue := 0 }, { name := "serialPersistentFields", type := (.array (.object "java/io/ObjectStreamField")), accessFlags := 26, slot := 2, constantValue := 0 }, { name := "REPL", type := .char, accessFlags := 26, slot := 3, constantValue := 0 }, { name := "CASE_INSENSITIVE_ORDER", type := (.object "java/util/Comparator"), accessFlags := 25, slot := 4, constantValue := 0 }, { name := "LATIN1", type := .byte, accessFlags := 24, slot := 5, constantValue := 0 }, { name := "UTF16", type := .byte, accessFlags := 24, slot := 6, constantValue := 0 }]
  methods := #[k7m0, k7m1, k7m2, k7m3]
  instanceTypes := #[(.array .byte), .byte, .int, .boolean]
  staticTypes := #[.long, .boolean, (.array (.object "java/io/ObjectStreamField")), .char, (.object "java/util/Comparator"), .byte, .byte]
  resolved := Array.replicate 1451 none
  statics := some 0 }

def pool8 : Array CpInfo := pool [(6, .class_ 8), (1, u "java/lang/Object"), (0, u "<init>"), (0, u "()V"), (1, .class_ 14), (1, u "java/lang/StringUTF16"), (31, u "$assertionsDisabled"), (0, u "Z"), (13, u "HI_BYTE_SHIFT"), (0, u "I"), (2, u "LO_BYTE_SHIFT"), (49, .methodref 12 116), (0, .nameAndType 117 118), (0, u "compress"), (0, u "([CI[BII)I"), (3, u "([CII)[B"), (138, u "coderFromArrayLen"), (0, u "([BI)B"), (106, .class_ 371), (1, u "java/lang/StringUTF16$LinesSpliterator"), (58, u "MAX_LENGTH"), (196, .class_ 628), (0, u "java/lang/StringUTF16$CodePointsSpliterator"), (0, .class_ 630), (0, u "java/lang/StringUTF16$CharsSpliterator")] 4

def k8m0 : Method := { name := "<init>", desc := "()V", sig := { parameters := [], returnType := none }, accessFlags := 0, code := none }
def k8c1 : Code := { maxStack := 2, maxLocals := 2, code := jdk_52_method_15_code, exceptionTable := #[], attributes := #[] }
def k8m1 : Method := { name := "coderFromArrayLen", desc := "([BI)B", sig := { parameters := [(.array .byte), .int], returnType := some .byte }, accessFlags := 8, code := some k8c1 }
def k8c2 : Code := { maxStack := 5, maxLocals := 6, code := jdk_52_method_16_code, exceptionTable := #[], attributes := #[] }
def k8m2 : Method := { name := "compress", desc := "([CII)[B", sig := { parameters := [(.array .char), .int, .int], returnType := some (.array .byte) }, accessFlags := 9, code := some k8c2 }
def k8c3 : Code := { maxStack := 3, maxLocals := 7, code := jdk_52_method_21_code, exceptionTable := #[], attributes := #[] }
def k8m3 : Method := { name := "compress", desc := "([CI[BII)I", sig := { parameters := [(.array .char), .int, (.array .byte), .int, .int], returnType := some .int }, accessFlags := 9, code := some k8c3 }
/-- java/lang/StringUTF16 -/
def k8 : Class := { plain "java/lang/StringUTF16" (some 0) with
  accessFlags := 48
  interfaces := #[]
  cf := some (fileOf pool8 12 #[.nestMembers #[627, 629, 369]] #[{ accessFlags := 0, nameIndex := 9, descriptorIndex := 10, attributes := #[] }, { accessFlags := 8, nameIndex := 261, descriptorIndex := 262, attributes := #[] }, { accessFlags := 9, nameIndex := 117, descriptorIndex := 122, attributes := #[] }, { accessFlags := 9, nameIndex := 117, descriptorIndex := 118, attributes := #[] }] 48 6 #[] #[{ accessFlags := 26, nameIndex := 61, descriptorIndex := 62, attributes := #[] }, { accessFlags := 26, nameIndex := 65, descriptorIndex := 62, attributes := #[] }, { accessFlags := 24, nameIndex := 430, descriptorIndex := 62, attributes := #[] }, { accessFlags := 4120, nameIndex := 46, descriptorIndex := 47, attributes := #[] }])
  fields := #[{ name := "HI_BYTE_SHIFT", type := .int, accessFlags := 26, slot := 0, constantValue := 0 }, { name := "LO_BYTE_SHIFT", type := .int, accessFlags := 26, slot := 1, constantValue := 0 }, { name := "MAX_LENGTH", type := .int, accessFlags := 24, slot := 2, constantValue := 0 }, { name := "$assertionsDisabled", type := .boolean, accessFlags := 4120, slot := 3, constantValue := 0 }]
  methods := #[k8m0, k8m1, k8m2, k8m3]
  instanceTypes := #[]
  staticTypes := #[.int, .int, .int, .boolean]
  resolved := Array.replicate 635 none
  statics := none }

def pool9 : Array CpInfo := pool [(1, .methodref 2 3), (0, .class_ 4), (0, .nameAndType 5 6), (0, u "java/lang/Object"), (0, u "<init>"), (0, u "()V"), (0, .fieldref 8 9), (0, .class_ 10), (0, .nameAndType 11 12), (0, u "com/example/topiq/topiq/protocol/MessageQueue"), (0, u "topic"), (0, u "Ljava/lang/String;"), (0, .fieldref 8 14), (0, .nameAndType 15 12), (0, u "brokerName"), (0, .fieldref 8 17), (0, .nameAndType 18 19), (0, u "queueId"), (0, u "I"), (55, u "(Ljava/lang/String;Ljava/lang/String;I)V"), (5, u "(Ljava/lang/Object;)Z"), (18, .methodref 101 102), (0, .class_ 103), (0, .nameAndType 104 81), (0, u "java/lang/String"), (0, u "equals")] 41

def k9c0 : Code := { maxStack := 2, maxLocals := 4, code := prog_40_method_1_code, exceptionTable := #[], attributes := #[] }
def k9m0 : Method := { name := "<init>", desc := "(Ljava/lang/String;Ljava/lang/String;I)V", sig := { parameters := [(.object "java/lang/String"), (.object "java/lang/String"), .int], returnType := none }, accessFlags := 1, code := some k9c0 }
def k9c1 : Code := { maxStack := 2, maxLocals := 3, code := prog_40_method_7_code, exceptionTable := #[], attributes := #[] }
def k9m1 : Method := { name := "equals", desc := "(Ljava/lang/Object;)Z", sig := { parameters := [(.object "java/lang/Object")], returnType := some .boolean }, accessFlags := 1, code := some k9c1 }
/-- com/example/topiq/topiq/protocol/MessageQueue -/
def k9 : Class := { plain "com/example/topiq/topiq/protocol/MessageQueue" (some 0) with
  accessFlags := 33
  interfaces := #[]
  cf := some (fileOf pool9 8 #[] #[{ accessFlags := 1, nameIndex := 5, descriptorIndex := 75, attributes := #[] }, { accessFlags := 1, nameIndex := 104, descriptorIndex := 81, attributes := #[] }] 33 2 #[] #[{ accessFlags := 18, nameIndex := 11, descriptorIndex := 12, attributes := #[] }, { accessFlags := 18, nameIndex := 15, descriptorIndex := 12, attributes := #[] }, { accessFlags := 18, nameIndex := 18, descriptorIndex := 19, attributes := #[] }])
  fields := #[{ name := "topic", type := (.object "java/lang/String"), accessFlags := 18, slot := 0, constantValue := 0 }, { name := "brokerName", type := (.object "java/lang/String"), accessFlags := 18, slot := 1, constantValue := 0 }, { name := "queueId", type := .int, accessFlags := 18, slot := 2, constantValue := 0 }]
  methods := #[k9m0, k9m1]
  instanceTypes := #[(.object "java/lang/String"), (.object "java/lang/String"), .int]
  staticTypes := #[]
  resolved := Array.replicate 146 none
  statics := none }

def pool10 : Array CpInfo := pool [(4, .class_ 6), (1, u "java/lang/Object"), (0, u "<init>"), (0, u "()V"), (5, .class_ 16), (1, u "java/lang/StringLatin1"), (104, u "$assertionsDisabled"), (0, u "Z"), (98, .class_ 223), (1, u "java/lang/StringLatin1$LinesSpliterator"), (57, u "equals"), (0, u "([B[B)Z"), (107, .class_ 391), (0, u "java/lang/StringLatin1$CharsSpliterator")] 3

def k10m0 : Method := { name := "<init>", desc := "()V", sig := { parameters := [], returnType := none }, accessFlags := 0, code := none }
def k10c1 : Code := { maxStack := 3, maxLocals := 3, code := jdk_43_method_13_code, exceptionTable := #[], attributes := #[] }
def k10m1 : Method := { name := "equals", desc := "([B[B)Z", sig := { parameters := [(.array .byte), (.array .byte)], returnType := some .boolean }, accessFlags := 9, code := some k10c1 }
/-- java/lang/StringLatin1 -/
def k10 : Class := { plain "java/lang/StringLatin1" (some 0) with
  accessFlags := 48
  interfaces := #[]
  cf := some (fileOf pool10 14 #[.nestMembers #[390, 221]] #[{ accessFlags := 0, nameIndex := 7, descriptorIndex := 8, attributes := #[] }, { accessFlags := 9, nameIndex := 281, descriptorIndex := 282, attributes := #[] }] 48 4 #[] #[{ accessFlags := 4120, nameIndex := 121, descriptorIndex := 122, attributes := #[] }])
  fields := #[{ name := "$assertionsDisabled", type := .boolean, accessFlags := 4120, slot := 0, constantValue := 0 }]
  methods := #[k10m0, k10m1]
  instanceTypes := #[]
  staticTypes := #[.boolean]
  resolved := Array.replicate 395 none
  statics := none }

def pool11 : Array CpInfo := pool [(2, .class_ 4), (1, u "java/lang/Object"), (0, u "<init>"), (0, u "()V"), (17, .class_ 26), (1, u "jdk/internal/util/Preconditions"), (28, .class_ 56), (0, u "jdk/internal/util/Preconditions$4"), (57, .class_ 115), (0, u "jdk/internal/util/Preconditions$1"), (7, u "SIOOBE_FORMATTER"), (0, u "Ljava/util/function/BiFunction;"), (0, .class_ 126), (0, u "jdk/internal/util/Preconditions$2"), (3, u "AIOOBE_FORMATTER"), (0, .class_ 132), (0, u "jdk/internal/util/Preconditions$3"), (3, u "IOOBE_FORMATTER")] 57

def k11m0 : Method := { name := "<init>", desc := "()V", sig := { parameters := [], returnType := none }, accessFlags := 1, code := none }
/-- jdk/internal/util/Preconditions -/
def k11 : Class := { plain "jdk/internal/util/Preconditions" (some 0) with
  accessFlags := 33
  interfaces := #[]
  cf := some (fileOf pool11 24 #[.nestMembers #[55, 131, 125, 114]] #[{ accessFlags := 1, nameIndex := 5, descriptorIndex := 6, attributes := #[] }] 33 2 #[] #[{ accessFlags := 25, nameIndex := 123, descriptorIndex := 124, attributes := #[] }, { accessFlags := 25, nameIndex := 130, descriptorIndex := 124, attributes := #[] }, { accessFlags := 25, nameIndex := 136, descriptorIndex := 124, attributes := #[] }])
  fields := #[{ name := "SIOOBE_FORMATTER", type := (.object "java/util/function/BiFunction"), accessFlags := 25, slot := 0, constantValue := 0 }, { name := "AIOOBE_FORMATTER", type := (.object "java/util/function/BiFunction"), accessFlags := 25, slot := 1, constantValue := 0 }, { name := "IOOBE_FORMATTER", type := (.object "java/util/function/BiFunction"), accessFlags := 25, slot := 2, constantValue := 0 }]
  methods := #[k11m0]
  instanceTypes := #[]
  staticTypes := #[(.object "java/util/function/BiFunction"), (.object "java/util/function/BiFunction"), (.object "java/util/function/BiFunction")]
  resolved := Array.replicate 194 none
  statics := some 1 }

def pool12 : Array CpInfo := pool [(9, u "<init>"), (6, .class_ 18), (1, u "java/lang/Object"), (0, u "()V"), (1, .class_ 23), (1, u "jdk/internal/util/ArraysSupport"), (0, u "LOG2_ARRAY_LONG_INDEX_SCALE"), (0, u "I"), (2, u "U"), (0, u "Ljdk/internal/misc/Unsafe;"), (8, u "BIG_ENDIAN"), (0, u "Z"), (8, u "LOG2_BYTE_BIT_SIZE"), (4, u "LOG2_ARRAY_INT_INDEX_SCALE"), (54, u "JLA"), (0, u "Ljdk/internal/access/JavaLangAccess;"), (11, u "LOG2_ARRAY_BOOLEAN_INDEX_SCALE"), (9, u "LOG2_ARRAY_BYTE_INDEX_SCALE"), (5, u "LOG2_ARRAY_CHAR_INDEX_SCALE"), (5, u "LOG2_ARRAY_SHORT_INDEX_SCALE"), (18, u "LOG2_ARRAY_FLOAT_INDEX_SCALE"), (24, u "LOG2_ARRAY_DOUBLE_INDEX_SCALE"), (89, u "T_BOOLEAN"), (2, u "T_CHAR"), (1, u "T_FLOAT"), (1, u "T_DOUBLE"), (1, u "T_BYTE"), (1, u "T_SHORT"), (1, u "T_INT"), (1, u "T_LONG"), (1, u "SOFT_MAX_ARRAY_LENGTH")] 83

def k12m0 : Method := { name := "<init>", desc := "()V", sig := { parameters := [], returnType := none }, accessFlags := 2, code := none }
/-- jdk/internal/util/ArraysSupport -/
def k12 : Class := { plain "jdk/internal/util/ArraysSupport" (some 0) with
  accessFlags := 33
  interfaces := #[]
  cf := some (fileOf pool12 21 #[] #[{ accessFlags := 2, nameIndex := 9, descriptorIndex := 19, attributes := #[] }] 33 16 #[] #[{ accessFlags := 24, nameIndex := 28, descriptorIndex := 29, attributes := #[] }, { accessFlags := 26, nameIndex := 38, descriptorIndex := 39, attributes := #[] }, { accessFlags := 25, nameIndex := 121, descriptorIndex := 25, attributes := #[] }, { accessFlags := 25, nameIndex := 131, descriptorIndex := 25, attributes := #[] }, { accessFlags := 25, nameIndex := 137, descriptorIndex := 25, attributes := #[] }, { accessFlags := 25, nameIndex := 143, descriptorIndex := 25, attributes := #[] }, { accessFlags := 25, nameIndex := 53, descriptorIndex := 25, attributes := #[] }, { accessFlags := 25, nameIndex := 24, descriptorIndex := 25, attributes := #[] }, { accessFlags := 25, nameIndex := 162, descriptorIndex := 25, attributes := #[] }, { accessFlags := 25, nameIndex := 187, descriptorIndex := 25, attributes := #[] }, { accessFlags := 26, nameIndex := 48, descriptorIndex := 25, attributes := #[] }, { accessFlags := 25, nameIndex := 277, descriptorIndex := 25, attributes := #[] }, { accessFlags := 25, nameIndex := 280, descriptorIndex := 25, attributes := #[] }, { accessFlags := 25, nameIndex := 282, descriptorIndex := 25, attributes := #[] }, { accessFlags := 25, nameIndex := 284, descriptorIndex := 25, attributes := #[] }, { accessFlags := 25, nameIndex := 286, descriptorIndex := 25, attributes := #[] }, { accessFlags := 25, nameIndex := 288, descriptorIndex := 25, attributes := #[] }, { accessFlags := 25, nameIndex := 290, descriptorIndex := 25, attributes := #[] }, { accessFlags := 25, nameIndex := 292, descriptorIndex := 25, attributes := #[] }, { accessFlags := 26, nameIndex := 108, descriptorIndex := 109, attributes := #[] }, { accessFlags := 25, nameIndex := 294, descriptorIndex := 25, attributes := #[] }])
  fields := #[{ name := "U", type := (.object "jdk/internal/misc/Unsafe"), accessFlags := 24, slot := 0, constantValue := 0 }, { name := "BIG_ENDIAN", type := .boolean, accessFlags := 26, slot := 1, constantValue := 0 }, { name := "LOG2_ARRAY_BOOLEAN_INDEX_SCALE", type := .int, accessFlags := 25, slot := 2, constantValue := 0 }, { name := "LOG2_ARRAY_BYTE_INDEX_SCALE", type := .int, accessFlags := 25, slot := 3, constantValue := 0 }, { name := "LOG2_ARRAY_CHAR_INDEX_SCALE", type := .int, accessFlags := 25, slot := 4, constantValue := 0 }, { name := "LOG2_ARRAY_SHORT_INDEX_SCALE", type := .int, accessFlags := 25, slot := 5, constantValue := 0 }, { name := "LOG2_ARRAY_INT_INDEX_SCALE", type := .int, accessFlags := 25, slot := 6, constantValue := 0 }, { name := "LOG2_ARRAY_LONG_INDEX_SCALE", type := .int, accessFlags := 25, slot := 7, constantValue := 0 }, { name := "LOG2_ARRAY_FLOAT_INDEX_SCALE", type := .int, accessFlags := 25, slot := 8, constantValue := 0 }, { name := "LOG2_ARRAY_DOUBLE_INDEX_SCALE", type := .int, accessFlags := 25, slot := 9, constantValue := 0 }, { name := "LOG2_BYTE_BIT_SIZE", type := .int, accessFlags := 26, slot := 10, constantValue := 0 }, { name := "T_BOOLEAN", type := .int, accessFlags := 25, slot := 11, constantValue := 0 }, { name := "T_CHAR", type := .int, accessFlags := 25, slot := 12, constantValue := 0 }, { name := "T_FLOAT", type := .int, accessFlags := 25, slot := 13, constantValue := 0 }, { name := "T_DOUBLE", type := .int, accessFlags := 25, slot := 14, constantValue := 0 }, { name := "T_BYTE", type := .int, accessFlags := 25, slot := 15, constantValue := 0 }, { name := "T_SHORT", type := .int, accessFlags := 25, slot := 16, constantValue := 0 }, { name := "T_INT", type := .int, accessFlags := 25, slot := 17, constantValue := 0 }, { name := "T_LONG", type := .int, accessFlags := 25, slot := 18, constantValue := 0 }, { name := "JLA", type := (.object "jdk/internal/access/JavaLangAccess"), accessFlags := 26, slot := 19, constantValue := 0 }, { name := "SOFT_MAX_ARRAY_LENGTH", type := .int, accessFlags := 25, slot := 20, constantValue := 0 }]
  methods := #[k12m0]
  instanceTypes := #[]
  staticTypes := #[(.object "jdk/internal/misc/Unsafe"), .boolean, .int, .int, .int, .int, .int, .int, .int, .int, .int, .int, .int, .int, .int, .int, .int, .int, .int, (.object "jdk/internal/access/JavaLangAccess"), .int]
  resolved := Array.replicate 378 none
  statics := none }

def pool13 : Array CpInfo := pool [(1, u "java/lang/Cloneable"), (0, .class_ 1), (0, u "java/lang/Object"), (0, .class_ 3)] 3

/-- java/lang/Cloneable -/
def k13 : Class := { plain "java/lang/Cloneable" (some 0) with
  accessFlags := 1537
  interfaces := #[]
  cf := some (fileOf pool13 2 #[] #[] 1537 4 #[] #[])
  fields := #[]
  methods := #[]
  instanceTypes := #[]
  staticTypes := #[]
  resolved := Array.replicate 8 none
  statics := none }

/-- the primitive byte -/
def k14 : Class := { plain "byte" none with kind := .primitive 'B', accessFlags := 0x411 }
/-- [B -/
def k15 : Class := { plain "[B" (some 0) with kind := .array 14 .byte, interfaces := #[13, 2], accessFlags := 1041 }

/-- the primitive char -/
def k16 : Class := { plain "char" none with kind := .primitive 'C', accessFlags := 0x411 }
/-- [C -/
def k17 : Class := { plain "[C" (some 0) with kind := .array 16 .char, interfaces := #[13, 2], accessFlags := 1041 }

/-- the primitive int -/
def k18 : Class := { plain "int" none with kind := .primitive 'I', accessFlags := 0x411 }
/-- [I -/
def k19 : Class := { plain "[I" (some 0) with kind := .array 18 .int, interfaces := #[13, 2], accessFlags := 1041 }

def heap : Heap := #[{ cls := 7, slots := #[.long 0, .int 1, .null, .int 0, .null, .int 0, .int 0], vm := .statics 7 },
  { cls := 11, slots := #[.null, .null, .null], vm := .statics 11 }]
def classes : Array Class := #[k0, k1, k2, k3, k4, k5, k6, k7, k8, k9, k10, k11, k12, k13, k14, k15, k16, k17, k18, k19]
def interned : List (Array UInt16 × Addr) := []
def slotsUsed : Nat := 10
def theMethod : MethodId := ⟨1, 5⟩
def args0 : Array Value := #[.long 5, .long 6, .int 1, .int 2, .int 3]
def aboutOver (below : List Frame) : State where
  vm := { classes := classes, interned := interned.toArray }
  heap := heap
  slotsUsed := slotsUsed
  threads := #[{ frames := .invoking theMethod args0 :: below }]
def below0 : List Frame := [.native { method := ⟨0, 0⟩, args := #[] }]
def about1 : State := aboutOver below0
def p0 : Program := .bare "" "" ""
def e0 : Env := launch0.env 0 0 0
theorem w_frames : about1.frames = Frame.invoking theMethod args0 :: below0 := rfl
set_option maxRecDepth 65536 in
theorem w_args : argsFit about1.vm theMethod args0 = true := by decide +kernel
set_option maxRecDepth 65536 in
theorem w_heap : heapFits about1 = true := by decide +kernel
set_option maxRecDepth 65536 in
theorem w_runnable : about1.curStatus? = some .runnable := by decide +kernel
set_option maxRecDepth 65536 in
theorem w_alone : about1.alone = true := by decide +kernel
set_option maxRecDepth 65536 in
theorem w_named : about1.methodNamed? x = some theMethod := by decide +kernel
set_option maxRecDepth 65536 in
theorem w_hears : about1.hears theMethod below0 = true := by decide +kernel
set_option maxRecDepth 65536 in
theorem w_ripe : about1.ripe theMethod args0 below0 = true := by decide +kernel
theorem w_running : about1.status = .running := rfl
set_option maxRecDepth 65536 in
theorem w_room : about1.hasRoom e0.platform room_1 = true :=
  launch0.hasRoom_least _ room_1 (by decide +kernel) (by decide +kernel) (by decide +kernel) (by decide +kernel) (by decide +kernel) (by decide +kernel)
theorem allAtoms_all (ts : List Jvm.Cond) (a : Array Jvm.Value) (st : Jvm.State) : (allAtoms ts).before a st = ts.all (fun c => c.before a st) := by
  induction ts with
  | nil => rfl
  | cons c t ih =>
    show (Jvm.Cond.and c (allAtoms t)).before a st = _
    rw [Jvm.Cond.before_and, ih, List.all_cons]
def words1 : List Jvm.Cond := Jvm.Cond.code x code maxLocals ret :: tables_1
/-- a 'code' word, met by the world's own term for the bytes: nothing is compared byte by byte -/
theorem code_word {y : MethodName} {bytes : ByteArray} {mx : Nat} {rt : Option FieldType} {a : Array Value} {s : State} {m : MethodId} {meth : Method} {c : Code} (h1 : s.methodNamed? y = some m) (h2 : s.vm.method? m = some meth) (h3 : meth.code = some c) (h4 : c.code = bytes)
    (h5 : (c.maxLocals == mx && c.exceptionTable.isEmpty && decide (c.maxStack ≤ mostOperands) && decide (meth.sig.returnType = rt) && !meth.locks && decide (parseMethodDescriptor y.desc = some meth.sig)) = true) : (Jvm.Cond.code y bytes mx rt).before a s = true := by
  simp only [Bool.and_eq_true, beq_iff_eq, Bool.not_eq_true', decide_eq_true_eq] at h5
  obtain ⟨⟨⟨⟨⟨g1, g2⟩, g3⟩, g4⟩, g5⟩, g6⟩ := h5
  simp [Cond.before, Cond.holds, Cond.value, h1, h2, h3, h4, g1, g2, g3, g4, g5, g6]
def isCode : Jvm.Cond → Bool
  | .code _ _ _ _ => true
  | _ => false
theorem all_split {L : List Jvm.Cond} {P : Jvm.Cond → Bool} (h1 : L.all (fun c => isCode c || P c) = true) (h2 : ∀ c ∈ L.filter isCode, P c = true) : L.all P = true := by
  refine List.all_eq_true.mpr fun c hc => ?_
  have h := List.all_eq_true.mp h1 c hc
  rcases Bool.eq_false_or_eq_true (isCode c) with hi | hi
  · exact h2 c (List.mem_filter.mpr ⟨hc, hi⟩)
  · simpa [hi] using h
set_option maxRecDepth 65536 in
theorem w_c0 : (Jvm.Cond.code x code maxLocals ret).before args0 about1 = true := code_word (m := ⟨1, 5⟩) (meth := k1m5) (c := k1c5) (by decide +kernel) rfl rfl rfl (by decide +kernel)
set_option maxRecDepth 65536 in
theorem w_c1 : (Jvm.Cond.code ({ cls := "com/example/topiq/topiq/protocol/MessageQueueEqualsPinLaw", name := "len", desc := "(J)I" } : Jvm.MethodName) method_2_code (3 : Nat) (Option.some Jvm.ClassFile.FieldType.int)).before args0 about1 = true := code_word (m := ⟨1, 1⟩) (meth := k1m1) (c := k1c1) (by decide +kernel) rfl rfl rfl (by decide +kernel)
set_option maxRecDepth 65536 in
theorem w_c2 : (Jvm.Cond.code ({ cls := "com/example/topiq/topiq/protocol/MessageQueueEqualsPinLaw", name := "ch", desc := "(JI)I" } : Jvm.MethodName) method_3_code (3 : Nat) (Option.some Jvm.ClassFile.FieldType.int)).before args0 about1 = true := code_word (m := ⟨1, 2⟩) (meth := k1m2) (c := k1c2) (by decide +kernel) rfl rfl rfl (by decide +kernel)
set_option maxRecDepth 65536 in
theorem w_c3 : (Jvm.Cond.code ({ cls := "com/example/topiq/topiq/protocol/MessageQueueEqualsPinLaw", name := "mk", desc := "(III)Ljava/lang/String;" } : Jvm.MethodName) method_4_code (3 : Nat) (Option.some (Jvm.ClassFile.FieldType.object "java/lang/String"))).before args0 about1 = true := code_word (m := ⟨1, 3⟩) (meth := k1m3) (c := k1c3) (by decide +kernel) rfl rfl rfl (by decide +kernel)
set_option maxRecDepth 65536 in
theorem w_c4 : (Jvm.Cond.code ({ cls := "java/lang/String", name := "<init>", desc := "([C)V" } : Jvm.MethodName) jdk_42_method_3_code (2 : Nat) (Option.none : Option Jvm.ClassFile.FieldType)).before args0 about1 = true := code_word (m := ⟨7, 1⟩) (meth := k7m1) (c := k7c1) (by decide +kernel) rfl rfl rfl (by decide +kernel)
set_option maxRecDepth 65536 in
theorem w_c5 : (Jvm.Cond.code ({ cls := "java/lang/String", name := "<init>", desc := "([CIILjava/lang/Void;)V" } : Jvm.MethodName) jdk_42_method_149_code (6 : Nat) (Option.none : Option Jvm.ClassFile.FieldType)).before args0 about1 = true := code_word (m := ⟨7, 3⟩) (meth := k7m3) (c := k7c3) (by decide +kernel) rfl rfl rfl (by decide +kernel)
set_option maxRecDepth 65536 in
theorem w_c6 : (Jvm.Cond.code ({ cls := "java/lang/Object", name := "<init>", desc := "()V" } : Jvm.MethodName) object_method_1_code (1 : Nat) (Option.none : Option Jvm.ClassFile.FieldType)).before args0 about1 = true := code_word (m := ⟨0, 0⟩) (meth := k0m0) (c := k0c0) (by decide +kernel) rfl rfl rfl (by decide +kernel)
set_option maxRecDepth 65536 in
theorem w_c7 : (Jvm.Cond.code ({ cls := "java/lang/StringUTF16", name := "compress", desc := "([CII)[B" } : Jvm.MethodName) jdk_52_method_16_code (6 : Nat) (Option.some (Jvm.ClassFile.FieldType.array Jvm.ClassFile.FieldType.byte))).before args0 about1 = true := code_word (m := ⟨8, 2⟩) (meth := k8m2) (c := k8c2) (by decide +kernel) rfl rfl rfl (by decide +kernel)
set_option maxRecDepth 65536 in
theorem w_c8 : (Jvm.Cond.code ({ cls := "java/lang/StringUTF16", name := "compress", desc := "([CI[BII)I" } : Jvm.MethodName) jdk_52_method_21_code (7 : Nat) (Option.some Jvm.ClassFile.FieldType.int)).before args0 about1 = true := code_word (m := ⟨8, 3⟩) (meth := k8m3) (c := k8c3) (by decide +kernel) rfl rfl rfl (by decide +kernel)
set_option maxRecDepth 65536 in
theorem w_c9 : (Jvm.Cond.code ({ cls := "java/lang/StringUTF16", name := "coderFromArrayLen", desc := "([BI)B" } : Jvm.MethodName) jdk_52_method_15_code (2 : Nat) (Option.some Jvm.ClassFile.FieldType.byte)).before args0 about1 = true := code_word (m := ⟨8, 1⟩) (meth := k8m1) (c := k8c1) (by decide +kernel) rfl rfl rfl (by decide +kernel)
set_option maxRecDepth 65536 in
theorem w_c10 : (Jvm.Cond.code ({ cls := "com/example/topiq/topiq/protocol/MessageQueue", name := "<init>", desc := "(Ljava/lang/String;Ljava/lang/String;I)V" } : Jvm.MethodName) prog_40_method_1_code (4 : Nat) (Option.none : Option Jvm.ClassFile.FieldType)).before args0 about1 = true := code_word (m := ⟨9, 0⟩) (meth := k9m0) (c := k9c0) (by decide +kernel) rfl rfl rfl (by decide +kernel)
set_option maxRecDepth 65536 in
theorem w_c11 : (Jvm.Cond.code ({ cls := "com/example/topiq/topiq/protocol/MessageQueueEqualsPinLaw", name := "same", desc := "(IIIIII)Z" } : Jvm.MethodName) method_5_code (6 : Nat) (Option.some Jvm.ClassFile.FieldType.boolean)).before args0 about1 = true := code_word (m := ⟨1, 4⟩) (meth := k1m4) (c := k1c4) (by decide +kernel) rfl rfl rfl (by decide +kernel)
set_option maxRecDepth 65536 in
theorem w_c12 : (Jvm.Cond.code ({ cls := "com/example/topiq/topiq/protocol/MessageQueue", name := "equals", desc := "(Ljava/lang/Object;)Z" } : Jvm.MethodName) prog_40_method_7_code (3 : Nat) (Option.some Jvm.ClassFile.FieldType.boolean)).before args0 about1 = true := code_word (m := ⟨9, 1⟩) (meth := k9m1) (c := k9c1) (by decide +kernel) rfl rfl rfl (by decide +kernel)
set_option maxRecDepth 65536 in
theorem w_c13 : (Jvm.Cond.code ({ cls := "java/lang/String", name := "equals", desc := "(Ljava/lang/Object;)Z" } : Jvm.MethodName) jdk_42_method_66_code (3 : Nat) (Option.some Jvm.ClassFile.FieldType.boolean)).before args0 about1 = true := code_word (m := ⟨7, 2⟩) (meth := k7m2) (c := k7c2) (by decide +kernel) rfl rfl rfl (by decide +kernel)
set_option maxRecDepth 65536 in
theorem w_c14 : (Jvm.Cond.code ({ cls := "java/lang/StringLatin1", name := "equals", desc := "([B[B)Z" } : Jvm.MethodName) jdk_43_method_13_code (3 : Nat) (Option.some Jvm.ClassFile.FieldType.boolean)).before args0 about1 = true := code_word (m := ⟨10, 1⟩) (meth := k10m1) (c := k10c1) (by decide +kernel) rfl rfl rfl (by decide +kernel)
def codes1 : List Jvm.Cond := [Jvm.Cond.code x code maxLocals ret, Jvm.Cond.code ({ cls := "com/example/topiq/topiq/protocol/MessageQueueEqualsPinLaw", name := "len", desc := "(J)I" } : Jvm.MethodName) method_2_code (3 : Nat) (Option.some Jvm.ClassFile.FieldType.int), Jvm.Cond.code ({ cls := "com/example/topiq/topiq/protocol/MessageQueueEqualsPinLaw", name := "ch", desc := "(JI)I" } : Jvm.MethodName) method_3_code (3 : Nat) (Option.some Jvm.ClassFile.FieldType.int), Jvm.Cond.code ({ cls := "com/example/topiq/topiq/protocol/MessageQueueEqualsPinLaw", name := "mk", desc := "(III)Ljava/lang/String;" } : Jvm.MethodName) method_4_code (3 : Nat) (Option.some (Jvm.ClassFile.FieldType.object "java/lang/String")), Jvm.Cond.code ({ cls := "java/lang/String", name := "<init>", desc := "([C)V" } : Jvm.MethodName) jdk_42_method_3_code (2 : Nat) (Option.none : Option Jvm.ClassFile.FieldType), Jvm.Cond.code ({ cls := "java/lang/String", name := "<init>", desc := "([CIILjava/lang/Void;)V" } : Jvm.MethodName) jdk_42_method_149_code (6 : Nat) (Option.none : Option Jvm.ClassFile.FieldType), Jvm.Cond.code ({ cls := "java/lang/Object", name := "<init>", desc := "()V" } : Jvm.MethodName) object_method_1_code (1 : Nat) (Option.none : Option Jvm.ClassFile.FieldType), Jvm.Cond.code ({ cls := "java/lang/StringUTF16", name := "compress", desc := "([CII)[B" } : Jvm.MethodName) jdk_52_method_16_code (6 : Nat) (Option.some (Jvm.ClassFile.FieldType.array Jvm.ClassFile.FieldType.byte)), Jvm.Cond.code ({ cls := "java/lang/StringUTF16", name := "compress", desc := "([CI[BII)I" } : Jvm.MethodName) jdk_52_method_21_code (7 : Nat) (Option.some Jvm.ClassFile.FieldType.int), Jvm.Cond.code ({ cls := "java/lang/StringUTF16", name := "coderFromArrayLen", desc := "([BI)B" } : Jvm.MethodName) jdk_52_method_15_code (2 : Nat) (Option.some Jvm.ClassFile.FieldType.byte), Jvm.Cond.code ({ cls := "com/example/topiq/topiq/protocol/MessageQueue", name := "<init>", desc := "(Ljava/lang/String;Ljava/lang/String;I)V" } : Jvm.MethodName) prog_40_method_1_code (4 : Nat) (Option.none : Option Jvm.ClassFile.FieldType), Jvm.Cond.code ({ cls := "com/example/topiq/topiq/protocol/MessageQueueEqualsPinLaw", name := "same", desc := "(IIIIII)Z" } : Jvm.MethodName) method_5_code (6 : Nat) (Option.some Jvm.ClassFile.FieldType.boolean), Jvm.Cond.code ({ cls := "com/example/topiq/topiq/protocol/MessageQueue", name := "equals", desc := "(Ljava/lang/Object;)Z" } : Jvm.MethodName) prog_40_method_7_code (3 : Nat) (Option.some Jvm.ClassFile.FieldType.boolean), Jvm.Cond.code ({ cls := "java/lang/String", name := "equals", desc := "(Ljava/lang/Object;)Z" } : Jvm.MethodName) jdk_42_method_66_code (3 : Nat) (Option.some Jvm.ClassFile.FieldType.boolean), Jvm.Cond.code ({ cls := "java/lang/StringLatin1", name := "equals", desc := "([B[B)Z" } : Jvm.MethodName) jdk_43_method_13_code (3 : Nat) (Option.some Jvm.ClassFile.FieldType.boolean)]
set_option maxRecDepth 65536 in
theorem codes_eq : words1.filter isCode = codes1 := rfl
theorem w_codes : ∀ c ∈ words1.filter isCode, c.before args0 about1 = true := by
  rw [codes_eq]
  intro c hc
  simp only [codes1, List.mem_cons, List.not_mem_nil, or_false] at hc
  rcases hc with rfl | rfl | rfl | rfl | rfl | rfl | rfl | rfl | rfl | rfl | rfl | rfl | rfl | rfl | rfl
  · exact w_c0
  · exact w_c1
  · exact w_c2
  · exact w_c3
  · exact w_c4
  · exact w_c5
  · exact w_c6
  · exact w_c7
  · exact w_c8
  · exact w_c9
  · exact w_c10
  · exact w_c11
  · exact w_c12
  · exact w_c13
  · exact w_c14
set_option maxRecDepth 65536 in
theorem w_t1 : (words1.take 24).all (fun c => isCode c || c.before args0 about1) = true := by decide +kernel
set_option maxRecDepth 65536 in
theorem w_t2 : ((words1.drop 24).take 24).all (fun c => isCode c || c.before args0 about1) = true := by decide +kernel
set_option maxRecDepth 65536 in
theorem w_t3 : (((words1.drop 24).drop 24).take 24).all (fun c => isCode c || c.before args0 about1) = true := by decide +kernel
set_option maxRecDepth 65536 in
theorem w_t4 : (((words1.drop 24).drop 24).drop 24).all (fun c => isCode c || c.before args0 about1) = true := by decide +kernel
theorem w_tables : (allAtoms (Jvm.Cond.code x code maxLocals ret :: tables_1)).before args0 about1 = true := by
  rw [allAtoms_all]
  show words1.all (fun c => c.before args0 about1) = true
  refine all_split ?_ w_codes
  rw [← List.take_append_drop 24 words1, List.all_append, w_t1, ← List.take_append_drop 24 (words1.drop 24), List.all_append, w_t2, ← List.take_append_drop 24 ((words1.drop 24).drop 24), List.all_append, w_t3, w_t4]
  rfl
set_option maxRecDepth 65536 in
theorem w_rest : rest_1_c.before args0 about1 = true := by decide +kernel
set_option maxRecDepth 65536 in
theorem w_case : (Jvm.Cond.and given_1 narrow_1).before args0 about1 = true := by decide +kernel
set_option maxRecDepth 65536 in
theorem w_consts : constsHeld consts_1 about1 := Jvm.Lit.constsHeldB_iff.mp (by decide +kernel)
theorem w_applies : (headSpec (Jvm.Cond.code x code maxLocals ret :: tables_1) room_1).applies x e0.platform about1 = true :=
  (Spec.applies_iff w_frames).mpr ⟨w_running, w_runnable, w_alone, w_named, w_hears, w_ripe, w_room, w_tables⟩
theorem atStart : AtStart classFile x code maxLocals ret World_1 tables_1 room_1 Calls_1 rest_1 Pre_1 launch0 p0 e0 about1 theMethod args0 below0 :=
  ⟨lists_1, trivial, launch0.admits_env _ _ _, launch0.least_env, fairChoices_fair.cas, fairChoices_fair.clock, w_frames, w_args, w_heap, w_applies, ⟨w_consts, trivial⟩, w_rest, w_case⟩
end start1
theorem witness_1 : WitnessClaimed_1 := ⟨start1.p0, start1.e0, start1.about1, start1.theMethod, start1.args0, start1.below0, start1.atStart⟩
end Jvm.Pilot.@@N@@
