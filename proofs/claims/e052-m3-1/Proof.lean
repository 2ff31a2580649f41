import JvmDerived
import JvmDerived.Pilot.@@N@@Statement
import JvmDerived.Pilot.@@N@@Code
set_option linter.unusedVariables false
set_option linter.unusedSimpArgs false
/- laws to paste: Road.backV, Road.eqW, Road.codOf (cut by pick.py; bodies as the Statement names them) -/
namespace Jvm.Pilot.@@N@@
namespace StrChars
open Jvm Sem ClassFile Op Lib Jvm.Stand Jvm.Free.XT Jvm.Free.ALB Jvm.Free.JM Jvm.Free
open Jvm.Lib.Cold (StaticIs)
/-- a char array whose places are chars -/
def Ch (a : Addr) (A : Cell) (U : State) : Prop := Arr .char a A U ∧ Typed .char A
theorem Ch.mv {a : Addr} {A : Cell} {U U' : State} (h : Ch a A U) (hal : U.vm.Alike U'.vm) (hh : U'.heap = U.heap) : Ch a A U' := ⟨h.1.mv hal hh, h.2⟩
theorem Ch.keep {a : Addr} {A : Cell} {U U' : State} (h : Ch a A U) (hal : U.vm.Alike U'.vm) (hk : U'.heap[a]? = some A) : Ch a A U' := ⟨h.1.keep hal hk, h.2⟩
/-- what place i of a char[]'s cell holds -/
def cv (A : Cell) (i : Nat) : Int32 := match A.slots[i]? with | some (.int x) => x | _ => 0
theorem Ch.get {a : Addr} {A : Cell} {U : State} (h : Ch a A U) {i : Nat} (hi : i < A.slots.size) : A.slots[i]? = some (.int (cv A i)) := by
  have e := Array.getElem?_eq_getElem hi
  have f := h.2 i _ e
  unfold cv; rw [e]
  generalize A.slots[i] = v at f
  cases v <;> simp [fits] at f ⊢
/-- the byte that i2b leaves of a char -/
def lo8 (x : Int32) : Int32 := x.toInt8.toInt32
theorem fits_lo8 (y : Int32) : fits .byte (.int (lo8 y)) = true := by
  have h1 := y.toInt8.le_toInt
  have h2 := y.toInt8.toInt_lt
  simp only [lo8, fits, Bool.and_eq_true, decide_eq_true_eq, Int32.le_iff_toInt_le, Int8.toInt_toInt32, show (-128 : Int32).toInt = -128 from by decide, show (127 : Int32).toInt = 127 from by decide]
  omega
/-- A' is A but that each place j of lo .. hi - 1 holds f j -/
def Laid (A A' : Cell) (lo hi : Nat) (f : Nat → Value) : Prop := A'.cls = A.cls ∧ A'.vm = A.vm ∧ A'.slots.size = A.slots.size ∧ ∀ i, A'.slots[i]? = if lo ≤ i ∧ i < hi then some (f i) else A.slots[i]?
theorem Laid.zero (A : Cell) (lo : Nat) (f : Nat → Value) : Laid A A lo (lo + 0) f := ⟨rfl, rfl, rfl, fun i => by rw [if_neg (by omega)]⟩
theorem Laid.step {A Ak : Cell} {lo k : Nat} {f : Nat → Value} {v : Value} (h : Laid A Ak lo k f) (hlo : lo ≤ k) (hk : k < Ak.slots.size) (hv : v = f k) : Laid A (Ak.setSlot k v) lo (k + 1) f := by
  refine ⟨h.1, h.2.1, by simpa [Cell.setSlot] using h.2.2.1, fun i => ?_⟩
  by_cases e : k = i
  · subst e; rw [Cell.slots_setSlot_self v hk, if_pos (by omega), hv]
  · rw [Cell.slots_setSlot_ne v e, h.2.2.2 i]
    by_cases q : lo ≤ i ∧ i < k
    · rw [if_pos q, if_pos (by omega)]
    · rw [if_neg q, if_neg (by omega)]
def U16 : String := "java/lang/StringUTF16"
namespace Cmp5
def yN : MethodName := ⟨"java/lang/StringUTF16", "compress", "([CI[BII)I"⟩
abbrev yB : ByteArray := jdk_52_method_21_code
theorem d0 : decode yB 0 = .ok (.iconst 0, 1) := by decide +kernel
theorem d1 : decode yB 1 = .ok (.istore 5, 2) := by decide +kernel
theorem d3 : decode yB 3 = .ok (.iload 5, 2) := by decide +kernel
theorem d5 : decode yB 5 = .ok (.iload 4, 2) := by decide +kernel
theorem d7 : decode yB 7 = .ok (.if_icmp (.ge) 37, 3) := by decide +kernel
theorem d10 : decode yB 10 = .ok (.aload_n 0, 1) := by decide +kernel
theorem d11 : decode yB 11 = .ok (.iload_n 1, 1) := by decide +kernel
theorem d12 : decode yB 12 = .ok (.caload, 1) := by decide +kernel
theorem d13 : decode yB 13 = .ok (.istore 6, 2) := by decide +kernel
theorem d15 : decode yB 15 = .ok (.iload 6, 2) := by decide +kernel
theorem d17 : decode yB 17 = .ok (.sipush 255, 3) := by decide +kernel
theorem d20 : decode yB 20 = .ok (.if_icmp (.le) 6, 3) := by decide +kernel
theorem d26 : decode yB 26 = .ok (.aload_n 2, 1) := by decide +kernel
theorem d27 : decode yB 27 = .ok (.iload_n 3, 1) := by decide +kernel
theorem d28 : decode yB 28 = .ok (.iload 6, 2) := by decide +kernel
theorem d30 : decode yB 30 = .ok (.i2b, 1) := by decide +kernel
theorem d31 : decode yB 31 = .ok (.bastore, 1) := by decide +kernel
theorem d32 : decode yB 32 = .ok (.iinc 1 1, 3) := by decide +kernel
theorem d35 : decode yB 35 = .ok (.iinc 3 1, 3) := by decide +kernel
theorem d38 : decode yB 38 = .ok (.iinc 5 1, 3) := by decide +kernel
theorem d41 : decode yB 41 = .ok (.goto (-38), 3) := by decide +kernel
theorem d44 : decode yB 44 = .ok (.iload 4, 2) := by decide +kernel
theorem d46 : decode yB 46 = .ok (.ireturn, 1) := by decide +kernel
def site : List Cond := []
def tab : Cond := tabOf yN yB 7 (some .int) site
def P (b : Addr) (A : Cell) (d : Addr) (B : Cell) (o q len : Nat) (args : Array Value) (s : State) : Prop := args = #[.ref b, .int (Int32.ofNat o), .ref d, .int (Int32.ofNat q), .int (Int32.ofNat len)] ∧ Ch b A s ∧ Arr .byte d B s ∧ b ≠ d ∧ o + len ≤ A.slots.size ∧ q + len ≤ B.slots.size ∧ ∀ i, i < len → ¬ 255 < cv A (o + i)
def E (b : Addr) (A : Cell) (d : Addr) (B : Cell) (o q len : Nat) (r : Option Value) (s u : State) : Prop := r = some (.int (Int32.ofNat len)) ∧ ∃ B', Put d B' s u ∧ Laid B B' q (q + len) (fun j => Value.int (lo8 (cv A (o + (j - q)))))
/-- no char of the range above 255: len; the places written hold each char's low byte -/
theorem law (l : Launch) (b : Addr) (A : Cell) (d : Addr) (B : Cell) (o q len : Nat) : Law l yN 5 5 0 0 yB 7 (some .int) site (P b A d B o q len) (E b A d B o q len) (copyLocs d q len) 0 0 := by
  refine Law.of_walk (plainFor_of_name (by decide +kernel)) (by decide +kernel) (by decide +kernel) (by decide) (fun _ _ h => by rw [h.1]; rfl) (fun _ U U' hal hh h => ⟨h.1, h.2.1.mv hal hh, h.2.2.1.mv hal hh, h.2.2.2⟩) (fun r U U' V V' h1 hal h2 h => ⟨h.1, h.2.elim fun B' q => ⟨B', q.1.mv h1 h2, q.2⟩⟩) ?_
  intro p e s m args below meth c s₁ X0 hexec hbytes hml hret hlk hnm hown hh0 W hP
  obtain ⟨rfl, hA, hB, hne, l1, l2, hp⟩ := hP
  have c1 : Steps p.tables e below (s₁.setTop (entryFrame m #[.ref b, .int (Int32.ofNat o), .ref d, .int (Int32.ofNat q), .int (Int32.ofNat len)] 7)) (s₁.setTop (mkF m 0 #[.val (.ref b), .val (.int (Int32.ofNat o)), .val (.ref d), .val (.int (Int32.ofNat q)), .val (.int (Int32.ofNat len)), .unset, .unset] [])) := entry rfl
  have hA0 := hA.1.mv X0.warmed.alike hh0
  have hB0 := hB.mv X0.warmed.alike hh0
  have a31 := hA.1.2.2.2
  have c2 : Steps p.tables e below (s₁.setTop (entryFrame m #[.ref b, .int (Int32.ofNat o), .ref d, .int (Int32.ofNat q), .int (Int32.ofNat len)] 7)) (s₁.setTop (mkF m 3 #[.val (.ref b), .val (.int (Int32.ofNat o)), .val (.ref d), .val (.int (Int32.ofNat q)), .val (.int (Int32.ofNat len)), .val (.int 0), .unset] [])) := c1.trans (by
    refine iconstV X0.here hexec rfl 0 (hb hbytes d0) (by decide) ?_
    refine XS.istore X0.here hexec rfl (hb hbytes d1) rfl rfl ?_
    exact Steps.refl _)
  have loop : ∀ (r i : Nat), i + r = len → ∀ (z : Slot), (z = .unset ∨ ∃ w, z = .val w ∧ w.category = 1) → ∀ (Tl : State) (Bk : Cell), Stand p l e { frames := 0, locals := 0, cells := 0, slots := 0 } s m #[.ref b, .int (Int32.ofNat o), .ref d, .int (Int32.ofNat q), .int (Int32.ofNat len)] below meth c Tl ([] ++ copyLocs d q i) 0 0 → Put d Bk s₁ Tl → Laid B Bk q (q + i) (fun j => Value.int (lo8 (cv A (o + (j - q))))) →
      Steps p.tables e below (s₁.setTop (entryFrame m #[.ref b, .int (Int32.ofNat o), .ref d, .int (Int32.ofNat q), .int (Int32.ofNat len)] 7)) (Tl.setTop (mkF m 3 #[.val (.ref b), .val (.int (Int32.ofNat (o + i))), .val (.ref d), .val (.int (Int32.ofNat (q + i))), .val (.int (Int32.ofNat len)), .val (.int (Int32.ofNat i)), z] [])) → ∃ (T' : State) (B' : Cell) (z' : Slot), Stand p l e { frames := 0, locals := 0, cells := 0, slots := 0 } s m #[.ref b, .int (Int32.ofNat o), .ref d, .int (Int32.ofNat q), .int (Int32.ofNat len)] below meth c T' ([] ++ copyLocs d q len) 0 0 ∧ Put d B' s₁ T' ∧ Laid B B' q (q + len) (fun j => Value.int (lo8 (cv A (o + (j - q))))) ∧
      Steps p.tables e below (s₁.setTop (entryFrame m #[.ref b, .int (Int32.ofNat o), .ref d, .int (Int32.ofNat q), .int (Int32.ofNat len)] 7)) (T'.setTop (mkF m 3 #[.val (.ref b), .val (.int (Int32.ofNat (o + len))), .val (.ref d), .val (.int (Int32.ofNat (q + len))), .val (.int (Int32.ofNat len)), .val (.int (Int32.ofNat len)), z'] [])) := by
    intro r
    induction r with
    | zero =>
      intro i hi z hz Tl Bk Xl pl fl cl
      have hil : i = len := by omega
      rw [hil] at Xl fl cl
      exact ⟨Tl, Bk, z, Xl, pl, fl, cl⟩
    | succ r ih =>
      intro i hi z hz Tl Bk Xl pl fl cl
      have all := X0.warmed.alike.symm.trans Xl.warmed.alike
      have hAl := hA0.keep all (pl.other hne hA0.1)
      have hBk := hB0.like all pl.1 fl.1 fl.2.1 fl.2.2.1
      have hlt : q + i < Bk.slots.size := by rw [fl.2.2.1]; omega
      have c3 : Steps p.tables e below (s₁.setTop (entryFrame m #[.ref b, .int (Int32.ofNat o), .ref d, .int (Int32.ofNat q), .int (Int32.ofNat len)] 7)) (Tl.setTop (mkF m 12 #[.val (.ref b), .val (.int (Int32.ofNat (o + i))), .val (.ref d), .val (.int (Int32.ofNat (q + i))), .val (.int (Int32.ofNat len)), .val (.int (Int32.ofNat i)), z] [.int (Int32.ofNat (o + i)), .ref b])) := cl.trans (by
        refine XS.iload Xl.here hexec rfl (hb hbytes d3) rfl ?_
        refine XS.iload Xl.here hexec rfl (hb hbytes d5) rfl ?_
        refine XS.icmpNo Xl.here hexec rfl (hb hbytes d7) rfl (ii_ge_f (lt32 (by omega) (by omega))) ?_
        refine XS.aloadN Xl.here hexec rfl (hb hbytes d10) rfl rfl ?_
        refine XS.iloadN Xl.here hexec rfl (hb hbytes d11) rfl ?_
        exact Steps.refl _)
      have c4 : Steps p.tables e below (s₁.setTop (entryFrame m #[.ref b, .int (Int32.ofNat o), .ref d, .int (Int32.ofNat q), .int (Int32.ofNat len)] 7)) (Tl.setTop (mkF m 13 #[.val (.ref b), .val (.int (Int32.ofNat (o + i))), .val (.ref d), .val (.int (Int32.ofNat (q + i))), .val (.int (Int32.ofNat len)), .val (.int (Int32.ofNat i)), z] [.int (cv A (o + i))])) := c3.trans (by
        refine Xl.aget hexec hAl rfl (hA.get (i := o + i) (by omega)) rfl rfl (hb hbytes d12) ?_
        exact Steps.refl _)
      have c5 : Steps p.tables e below (s₁.setTop (entryFrame m #[.ref b, .int (Int32.ofNat o), .ref d, .int (Int32.ofNat q), .int (Int32.ofNat len)] 7)) (Tl.setTop (mkF m 15 #[.val (.ref b), .val (.int (Int32.ofNat (o + i))), .val (.ref d), .val (.int (Int32.ofNat (q + i))), .val (.int (Int32.ofNat len)), .val (.int (Int32.ofNat i)), .val (.int (cv A (o + i)))] [])) := c4.trans (by
        refine XS.istoreS Xl.here hexec rfl (hb hbytes d13) rfl rfl hz ?_
        exact Steps.refl _)
      have c6 : Steps p.tables e below (s₁.setTop (entryFrame m #[.ref b, .int (Int32.ofNat o), .ref d, .int (Int32.ofNat q), .int (Int32.ofNat len)] 7)) (Tl.setTop (mkF m 31 #[.val (.ref b), .val (.int (Int32.ofNat (o + i))), .val (.ref d), .val (.int (Int32.ofNat (q + i))), .val (.int (Int32.ofNat len)), .val (.int (Int32.ofNat i)), .val (.int (cv A (o + i)))] [.int (lo8 (cv A (o + i))), .int (Int32.ofNat (q + i)), .ref d])) := c5.trans (by
        refine XS.iload Xl.here hexec rfl (hb hbytes d15) rfl ?_
        refine sipushV Xl.here hexec rfl 255 (hb hbytes d17) (by decide) ?_
        refine XS.icmpYes Xl.here hexec rfl (pc0 := 20) rfl (hb hbytes d20) rfl (ii_le_t (hp i (by omega))) (by decide) rfl ?_
        refine XS.aloadN Xl.here hexec rfl (hb hbytes d26) rfl rfl ?_
        refine XS.iloadN Xl.here hexec rfl (hb hbytes d27) rfl ?_
        refine XS.iload Xl.here hexec rfl (hb hbytes d28) rfl ?_
        refine i2b Xl.here hexec rfl (hb hbytes d30) rfl ?_
        exact Steps.refl _)
      obtain ⟨T7, X7, p7, st7⟩ := Xl.aput hexec hBk rfl hlt rfl (fits_lo8 (cv A (o + i))) (g := (mkF m 31 #[.val (.ref b), .val (.int (Int32.ofNat (o + i))), .val (.ref d), .val (.int (Int32.ofNat (q + i))), .val (.int (Int32.ofNat len)), .val (.int (Int32.ofNat i)), .val (.int (cv A (o + i)))] [.int (lo8 (cv A (o + i))), .int (Int32.ofNat (q + i)), .ref d])) rfl (rest := []) rfl (hb hbytes d31)
      have c8 : Steps p.tables e below (s₁.setTop (entryFrame m #[.ref b, .int (Int32.ofNat o), .ref d, .int (Int32.ofNat q), .int (Int32.ofNat len)] 7)) (T7.setTop (mkF m 32 #[.val (.ref b), .val (.int (Int32.ofNat (o + i))), .val (.ref d), .val (.int (Int32.ofNat (q + i))), .val (.int (Int32.ofNat len)), .val (.int (Int32.ofNat i)), .val (.int (cv A (o + i)))] [])) := c6.trans (st7 _ (Steps.refl _))
      have c9 : Steps p.tables e below (s₁.setTop (entryFrame m #[.ref b, .int (Int32.ofNat o), .ref d, .int (Int32.ofNat q), .int (Int32.ofNat len)] 7)) (T7.setTop (mkF m 3 #[.val (.ref b), .val (.int (Int32.ofNat (o + i) + 1)), .val (.ref d), .val (.int (Int32.ofNat (q + i) + 1)), .val (.int (Int32.ofNat len)), .val (.int (Int32.ofNat i + 1)), .val (.int (cv A (o + i)))] [])) := c8.trans (by
        refine iincV X7.here hexec rfl 1 (hb hbytes d32) (by decide) rfl rfl ?_
        refine iincV X7.here hexec rfl 1 (hb hbytes d35) (by decide) rfl rfl ?_
        refine iincV X7.here hexec rfl 1 (hb hbytes d38) (by decide) rfl rfl ?_
        refine XS.goto X7.here hexec rfl (pc0 := 41) rfl (hb hbytes d41) (by decide) rfl ?_
        exact Steps.refl _)
      have c10 : Steps p.tables e below (s₁.setTop (entryFrame m #[.ref b, .int (Int32.ofNat o), .ref d, .int (Int32.ofNat q), .int (Int32.ofNat len)] 7)) (T7.setTop (mkF m 3 #[.val (.ref b), .val (.int (Int32.ofNat (o + (i + 1)))), .val (.ref d), .val (.int (Int32.ofNat (q + (i + 1)))), .val (.int (Int32.ofNat len)), .val (.int (Int32.ofNat (i + 1))), .val (.int (cv A (o + i)))] [])) := by
        have := c9
        rw [succ32, succ32, succ32] at this
        exact this
      exact ih (i + 1) (by omega) _ (Or.inr ⟨_, rfl, rfl⟩) T7 _ (by rw [copyLocs_step, ← List.append_assoc]; exact X7) (pl.trans p7) (fl.step (by omega) hlt (by simp)) c10
  obtain ⟨T9, B9, z9, X9, p9, f9, g9⟩ := loop len 0 (by omega) .unset (Or.inl rfl) s₁ B (by simpa [copyLocs] using X0) ⟨hB0.1, fun _ _ => rfl, rfl⟩ (Laid.zero _ _ _) c2
  have c11 : Steps p.tables e below (s₁.setTop (entryFrame m #[.ref b, .int (Int32.ofNat o), .ref d, .int (Int32.ofNat q), .int (Int32.ofNat len)] 7)) (T9.setTop (mkF m 46 #[.val (.ref b), .val (.int (Int32.ofNat (o + len))), .val (.ref d), .val (.int (Int32.ofNat (q + len))), .val (.int (Int32.ofNat len)), .val (.int (Int32.ofNat len)), z9] [.int (Int32.ofNat len)])) := g9.trans (by
    refine XS.iload X9.here hexec rfl (hb hbytes d3) rfl ?_
    refine XS.iload X9.here hexec rfl (hb hbytes d5) rfl ?_
    refine XS.icmpYes X9.here hexec rfl (pc0 := 7) rfl (hb hbytes d7) rfl (ii_ge_t (nlt32 (by omega) (Nat.le_refl _))) (by decide) rfl ?_
    refine XS.iload X9.here hexec rfl (hb hbytes d44) rfl ?_
    exact Steps.refl _)
  exact ⟨T9, some (.int (Int32.ofNat len)), _, _, _, X9, by simp, rfl, rfl, (fun h => by cases h), ⟨rfl, B9, p9.from hh0, f9⟩, fun fs hl => c11.trans (X9.ireturnOut hexec hret rfl (Or.inl rfl) (hb hbytes d46) hl)⟩
end Cmp5
namespace Cmp3
def yN : MethodName := ⟨"java/lang/StringUTF16", "compress", "([CII)[B"⟩
abbrev yB : ByteArray := jdk_52_method_16_code
theorem d0 : decode yB 0 = .ok (.iload_n 2, 1) := by decide +kernel
theorem d1 : decode yB 1 = .ok (.newarray .byte, 2) := by decide +kernel
theorem d3 : decode yB 3 = .ok (.astore_n 3, 1) := by decide +kernel
theorem d4 : decode yB 4 = .ok (.aload_n 0, 1) := by decide +kernel
theorem d5 : decode yB 5 = .ok (.iload_n 1, 1) := by decide +kernel
theorem d6 : decode yB 6 = .ok (.aload_n 3, 1) := by decide +kernel
theorem d7 : decode yB 7 = .ok (.iconst 0, 1) := by decide +kernel
theorem d8 : decode yB 8 = .ok (.iload_n 2, 1) := by decide +kernel
theorem d9 : decode yB 9 = .ok (.invokestatic 115, 3) := by decide +kernel
theorem d12 : decode yB 12 = .ok (.istore 4, 2) := by decide +kernel
theorem d14 : decode yB 14 = .ok (.iload 4, 2) := by decide +kernel
theorem d16 : decode yB 16 = .ok (.iload_n 2, 1) := by decide +kernel
theorem d17 : decode yB 17 = .ok (.if_icmp (.eq) 40, 3) := by decide +kernel
theorem d57 : decode yB 57 = .ok (.aload_n 3, 1) := by decide +kernel
theorem d58 : decode yB 58 = .ok (.areturn, 1) := by decide +kernel
def site : List Cond := [.arrayClass .byte, Cmp5.tab] ++ staticW U16 115 Cmp5.yN
def tab : Cond := tabOf yN yB 6 (some (.array .byte)) site
def P (b : Addr) (A : Cell) (o len : Nat) (args : Array Value) (s : State) : Prop := args = #[.ref b, .int (Int32.ofNat o), .int (Int32.ofNat len)] ∧ Ch b A s ∧ o + len ≤ A.slots.size ∧ len ≤ 536870912 ∧ ∀ i, i < len → ¬ 255 < cv A (o + i)
def E (b : Addr) (A : Cell) (o len : Nat) (r : Option Value) (s u : State) : Prop := NewArr .byte "[B" len (fun j => .int (lo8 (cv A (o + j)))) r s u ∧ u.heap.size = s.heap.size + 1
/-- no char of the range above 255: a new byte[] of their low bytes -/
theorem law (l : Launch) (b : Addr) (A : Cell) (o len : Nat) : Law l yN 3 3 1 18 yB 6 (some (.array .byte)) site (P b A o len) (E b A o len) [] 1 len := by
  refine Law.of_walk (plainFor_of_name (by decide +kernel)) (by decide +kernel) (by decide +kernel) (by decide) (fun _ _ h => by rw [h.1]; rfl) (fun _ U U' hal hh h => ⟨h.1, h.2.1.mv hal hh, h.2.2⟩) (fun r U U' V V' h1 hal h2 h => ⟨NewArr.mv r U U' V V' h1 hal h2 h.1, by rw [h1, h2]; exact h.2⟩) ?_
  intro p e s m args below meth c s₁ X0 hexec hbytes hml hret hlk hnm hown hh0 W hP
  obtain ⟨rfl, hA, l1, l2, hp⟩ := hP
  have a31 := hA.1.2.2.2
  have c1 : Steps p.tables e below (s₁.setTop (entryFrame m #[.ref b, .int (Int32.ofNat o), .int (Int32.ofNat len)] 6)) (s₁.setTop (mkF m 0 #[.val (.ref b), .val (.int (Int32.ofNat o)), .val (.int (Int32.ofNat len)), .unset, .unset, .unset] [])) := entry rfl
  have c2 : Steps p.tables e below (s₁.setTop (entryFrame m #[.ref b, .int (Int32.ofNat o), .int (Int32.ofNat len)] 6)) (s₁.setTop (mkF m 1 #[.val (.ref b), .val (.int (Int32.ofNat o)), .val (.int (Int32.ofNat len)), .unset, .unset, .unset] [.int (Int32.ofNat len)])) := c1.trans (by
    refine XS.iloadN X0.here hexec rfl (hb hbytes d0) rfl ?_
    exact Steps.refl _)
  obtain ⟨T3, B3, X3, ba3, bs3, bv3, bh3, bf3, st3⟩ := X0.anew hexec (atype := .byte) (wk W (.arrayClass .byte)) rfl (by show len * 1 ≤ _; omega) (by omega) (g := (mkF m 1 #[.val (.ref b), .val (.int (Int32.ofNat o)), .val (.int (Int32.ofNat len)), .unset, .unset, .unset] [.int (Int32.ofNat len)])) rfl (hb hbytes d1) (rest := []) rfl (Nat.le_refl _) (by show 0 + len ≤ len; omega)
  rw [hh0] at ba3 st3
  have kp3 : XT.Kept s T3 := (XT.Kept.of_eq hh0).push bh3
  have hA3 := hA.keep X3.warmed.alike (kp3 _ _ hA.1.1)
  have hne : b ≠ s.heap.size := hA.1.ne
  have c4 : Steps p.tables e below (s₁.setTop (entryFrame m #[.ref b, .int (Int32.ofNat o), .int (Int32.ofNat len)] 6)) (T3.setTop (mkF m 3 #[.val (.ref b), .val (.int (Int32.ofNat o)), .val (.int (Int32.ofNat len)), .unset, .unset, .unset] [.ref s.heap.size])) := c2.trans (st3 _ (Steps.refl _))
  have c5 : Steps p.tables e below (s₁.setTop (entryFrame m #[.ref b, .int (Int32.ofNat o), .int (Int32.ofNat len)] 6)) (T3.setTop (mkF m 9 #[.val (.ref b), .val (.int (Int32.ofNat o)), .val (.int (Int32.ofNat len)), .val (.ref s.heap.size), .unset, .unset] [.int (Int32.ofNat len), .int 0, .ref s.heap.size, .int (Int32.ofNat o), .ref b])) := c4.trans (by
    refine XS.astoreN X3.here hexec rfl (hb hbytes d3) rfl rfl rfl ?_
    refine XS.aloadN X3.here hexec rfl (hb hbytes d4) rfl rfl ?_
    refine XS.iloadN X3.here hexec rfl (hb hbytes d5) rfl ?_
    refine XS.aloadN X3.here hexec rfl (hb hbytes d6) rfl rfl ?_
    refine iconstV X3.here hexec rfl 0 (hb hbytes d7) (by decide) ?_
    refine XS.iloadN X3.here hexec rfl (hb hbytes d8) rfl ?_
    exact Steps.refl _)
  obtain ⟨v6, T6, X6, E6, g6⟩ := X3.callS hexec (Cmp5.law l b A s.heap.size B3 o 0 len) hown (wks W (staticW U16 115 Cmp5.yN)) (wk W Cmp5.tab) (W := 0) (Nat.le_of_ble_eq_true rfl) (Nat.le_of_ble_eq_true rfl) (Nat.le_refl _) (by show 0 + len + 0 ≤ len; omega) (g := (mkF m 9 #[.val (.ref b), .val (.int (Int32.ofNat o)), .val (.int (Int32.ofNat len)), .val (.ref s.heap.size), .unset, .unset] [.int (Int32.ofNat len), .int (Int32.ofNat 0), .ref s.heap.size, .int (Int32.ofNat o), .ref b])) rfl (by rw [hml]; rfl) c5 (argsL := [.ref b, .int (Int32.ofNat o), .ref s.heap.size, .int (Int32.ofNat 0), .int (Int32.ofNat len)]) (rest := []) rfl rfl (by show 2 * 0 + 0 ≤ _; decide) (hb hbytes d9) (⟨rfl, hA3, ba3, hne, l1, by rw [bs3]; simp, hp⟩)
  obtain ⟨rfl, B6, p6, f6⟩ := E6
  have c7 : Steps p.tables e below (s₁.setTop (entryFrame m #[.ref b, .int (Int32.ofNat o), .int (Int32.ofNat len)] 6)) (T6.setTop (mkF m 12 #[.val (.ref b), .val (.int (Int32.ofNat o)), .val (.int (Int32.ofNat len)), .val (.ref s.heap.size), .unset, .unset] [.int (Int32.ofNat len)])) := g6
  have c8 : Steps p.tables e below (s₁.setTop (entryFrame m #[.ref b, .int (Int32.ofNat o), .int (Int32.ofNat len)] 6)) (T6.setTop (mkF m 58 #[.val (.ref b), .val (.int (Int32.ofNat o)), .val (.int (Int32.ofNat len)), .val (.ref s.heap.size), .val (.int (Int32.ofNat len)), .unset] [.ref s.heap.size])) := c7.trans (by
    refine XS.istore X6.here hexec rfl (hb hbytes d12) rfl rfl ?_
    refine XS.iload X6.here hexec rfl (hb hbytes d14) rfl ?_
    refine XS.iloadN X6.here hexec rfl (hb hbytes d16) rfl ?_
    refine XS.icmpYes X6.here hexec rfl (pc0 := 17) rfl (hb hbytes d17) rfl (ii_eq_t rfl) (by decide) rfl ?_
    refine XS.aloadN X6.here hexec rfl (hb hbytes d57) rfl rfl ?_
    exact Steps.refl _)
  have X8 := X6.wide (L' := []) (cells' := 1) (slots' := len) (fun x hx hlt => by
    simp only [List.nil_append, copyLocs, List.mem_map, List.mem_range] at hx
    obtain ⟨i, -, rfl⟩ := hx
    exact absurd hlt (Nat.lt_irrefl _)) (Nat.le_refl _) (by omega)
  exact ⟨T6, some (.ref s.heap.size), _, _, _, X8, rfl, rfl, rfl, (fun h => by cases h), ⟨⟨rfl, B6, ba3.like (X3.warmed.alike.symm.trans X6.warmed.alike) p6.1 f6.1 f6.2.1 f6.2.2.1, f6.2.1.trans bv3, by rw [X6.warmed.alike.findClass, f6.1]; exact bf3, by rw [f6.2.2.1, bs3]; simp, fun j hj => by rw [f6.2.2.2 j, if_pos (by omega)]; rfl, kp3.put p6 (Nat.le_refl _)⟩, by rw [p6.2.2, bh3, hh0]; simp⟩, fun fs hl => c8.trans (X8.areturnOut hexec rfl hret rfl (hb hbytes d58) hl)⟩
end Cmp3
namespace CodL
def yN : MethodName := ⟨"java/lang/StringUTF16", "coderFromArrayLen", "([BI)B"⟩
abbrev yB : ByteArray := jdk_52_method_15_code
theorem d0 : decode yB 0 = .ok (.iload_n 1, 1) := by decide +kernel
theorem d1 : decode yB 1 = .ok (.aload_n 0, 1) := by decide +kernel
theorem d2 : decode yB 2 = .ok (.arraylength, 1) := by decide +kernel
theorem d3 : decode yB 3 = .ok (.isub, 1) := by decide +kernel
theorem d4 : decode yB 4 = .ok (.bipush 31, 2) := by decide +kernel
theorem d6 : decode yB 6 = .ok (.iushr, 1) := by decide +kernel
theorem d7 : decode yB 7 = .ok (.i2b, 1) := by decide +kernel
theorem d8 : decode yB 8 = .ok (.ireturn, 1) := by decide +kernel
def site : List Cond := []
def tab : Cond := tabOf yN yB 2 (some .byte) site
def P (d : Addr) (B : Cell) (args : Array Value) (s : State) : Prop := args = #[.ref d, .int (Int32.ofNat B.slots.size)] ∧ Arr .byte d B s
def E (r : Option Value) (s u : State) : Prop := XT.PureE (some (.int 0)) r s u
/-- an array as long as the number of chars: LATIN1 -/
theorem law (l : Launch) (d : Addr) (B : Cell) : Law l yN 2 2 0 0 yB 2 (some .byte) site (P d B) E [] 0 0 := by
  refine Law.of_walk (plainFor_of_name (by decide +kernel)) (by decide +kernel) (by decide +kernel) (by decide) (fun _ _ h => by rw [h.1]; rfl) (fun _ U U' hal hh h => ⟨h.1, h.2.mv hal hh⟩) (fun r U U' V V' h1 hal h2 h => XT.PureE.mv r U U' V V' h1 hal h2 h) ?_
  intro p e s m args below meth c s₁ X0 hexec hbytes hml hret hlk hnm hown hh0 W hP
  obtain ⟨rfl, hB⟩ := hP
  have hB0 := hB.mv X0.warmed.alike hh0
  have c1 : Steps p.tables e below (s₁.setTop (entryFrame m #[.ref d, .int (Int32.ofNat B.slots.size)] 2)) (s₁.setTop (mkF m 0 #[.val (.ref d), .val (.int (Int32.ofNat B.slots.size))] [])) := entry rfl
  have c2 : Steps p.tables e below (s₁.setTop (entryFrame m #[.ref d, .int (Int32.ofNat B.slots.size)] 2)) (s₁.setTop (mkF m 2 #[.val (.ref d), .val (.int (Int32.ofNat B.slots.size))] [.ref d, .int (Int32.ofNat B.slots.size)])) := c1.trans (by
    refine XS.iloadN X0.here hexec rfl (hb hbytes d0) rfl ?_
    refine XS.aloadN X0.here hexec rfl (hb hbytes d1) rfl rfl ?_
    exact Steps.refl _)
  have c3 : Steps p.tables e below (s₁.setTop (entryFrame m #[.ref d, .int (Int32.ofNat B.slots.size)] 2)) (s₁.setTop (mkF m 8 #[.val (.ref d), .val (.int (Int32.ofNat B.slots.size))] [.int (lo8 (ushr (Int32.ofNat B.slots.size - Int32.ofNat B.slots.size) 31))])) := c2.trans (by
    refine X0.alen hexec hB0 rfl rfl (hb hbytes d2) ?_
    refine XS.isub X0.here hexec rfl (hb hbytes d3) rfl ?_
    refine bipushV X0.here hexec rfl 31 (hb hbytes d4) (by decide) ?_
    refine iushr X0.here hexec rfl (hb hbytes d6) rfl ?_
    refine i2b X0.here hexec rfl (hb hbytes d7) rfl ?_
    exact Steps.refl _)
  have e0 : lo8 (ushr (Int32.ofNat B.slots.size - Int32.ofNat B.slots.size) 31) = 0 := by rw [Int32.sub_self]; decide
  rw [e0] at c3
  exact ⟨s₁, some (.int 0), _, _, _, X0, rfl, rfl, rfl, (fun h => by cases h), ⟨rfl, hh0⟩, fun fs hl => c3.trans (X0.ireturnOut hexec hret rfl (Or.inr (Or.inr (Or.inl rfl))) (hb hbytes d8) hl)⟩
end CodL
/-- the String at a is Latin-1 over a new byte[] (the heap's one new cell): the low bytes of the len chars of A from o on; every cell but a is kept -/
def Got (a : Addr) (D : Cell) (fV fC : Field) (A : Cell) (o len : Nat) (r : Option Value) (s u : State) : Prop := r = none ∧ ∃ D' V : Cell, Blank "java/lang/String" a D' u ∧ Same D D' [fV.slot, fC.slot] ∧ D'.slots[fV.slot]? = some (.ref s.heap.size) ∧ D'.slots[fC.slot]? = some (.int 0) ∧ Arr .byte s.heap.size V u ∧ V.vm = .none ∧ u.vm.findClass "[B" = some V.cls ∧ V.slots.size = len ∧ (∀ j, j < len → V.slots[j]? = some (.int (lo8 (cv A (o + j))))) ∧ (∀ (y : Addr) (c : Cell), y ≠ a → s.heap[y]? = some c → u.heap[y]? = some c) ∧ u.heap.size = s.heap.size + 1
theorem Got.mv {a : Addr} {D A : Cell} {fV fC : Field} {o len : Nat} : ∀ r (U U' V V' : State), U'.heap = U.heap → V.vm.Alike V'.vm → V'.heap = V.heap → Got a D fV fC A o len r U V → Got a D fV fC A o len r U' V' :=
  fun r U U' V V' h1 hal h2 ⟨e0, D', X, a1, a2, a3, a4, a5, a6, a7, a8, a9, a10, a11⟩ => ⟨e0, D', X, a1.mv hal h2, a2, by rw [h1]; exact a3, a4, by rw [h1]; exact a5.mv hal h2, a6, by rw [hal.findClass]; exact a7, a8, a9, by rw [h1, h2]; exact a10, by rw [h1, h2]; exact a11⟩
namespace New4
def yN : MethodName := ⟨"java/lang/String", "<init>", "([CIILjava/lang/Void;)V"⟩
abbrev yB : ByteArray := jdk_42_method_149_code
theorem d0 : decode yB 0 = .ok (.aload_n 0, 1) := by decide +kernel
theorem d1 : decode yB 1 = .ok (.invokespecial 1, 3) := by decide +kernel
theorem d4 : decode yB 4 = .ok (.iload_n 3, 1) := by decide +kernel
theorem d5 : decode yB 5 = .ok (.ifCond (.ne) 22, 3) := by decide +kernel
theorem d27 : decode yB 27 = .ok (.getstatic 38, 3) := by decide +kernel
theorem d30 : decode yB 30 = .ok (.ifCond (.eq) 28, 3) := by decide +kernel
theorem d33 : decode yB 33 = .ok (.aload_n 1, 1) := by decide +kernel
theorem d34 : decode yB 34 = .ok (.iload_n 2, 1) := by decide +kernel
theorem d35 : decode yB 35 = .ok (.iload_n 3, 1) := by decide +kernel
theorem d36 : decode yB 36 = .ok (.invokestatic 177, 3) := by decide +kernel
theorem d39 : decode yB 39 = .ok (.astore 5, 2) := by decide +kernel
theorem d41 : decode yB 41 = .ok (.aload_n 0, 1) := by decide +kernel
theorem d42 : decode yB 42 = .ok (.aload 5, 2) := by decide +kernel
theorem d44 : decode yB 44 = .ok (.iload_n 3, 1) := by decide +kernel
theorem d45 : decode yB 45 = .ok (.invokestatic 47, 3) := by decide +kernel
theorem d48 : decode yB 48 = .ok (.putfield 15, 3) := by decide +kernel
theorem d51 : decode yB 51 = .ok (.aload_n 0, 1) := by decide +kernel
theorem d52 : decode yB 52 = .ok (.aload 5, 2) := by decide +kernel
theorem d54 : decode yB 54 = .ok (.putfield 9, 3) := by decide +kernel
theorem d57 : decode yB 57 = .ok (.return_, 1) := by decide +kernel
def site : List Cond := [.fieldLink "java/lang/String" 38 "java/lang/String" "COMPACT_STRINGS" "Z", Cmp3.tab, CodL.tab, .laysFinal "java/lang/String" "java/lang/String" "value" "[B", .fieldLink "java/lang/String" 9 "java/lang/String" "value" "[B", .laysFinal "java/lang/String" "java/lang/String" "coder" "B", .fieldLink "java/lang/String" 15 "java/lang/String" "coder" "B"] ++ objW "java/lang/String" 1 ++ staticW "java/lang/String" 177 Cmp3.yN ++ staticW "java/lang/String" 47 CodL.yN
def tab : Cond := tabOf yN yB 6 none site
def P (a : Addr) (D : Cell) (fV fC : Field) (b : Addr) (A : Cell) (z : Int32) (o len : Nat) (args : Array Value) (s : State) : Prop := args = #[.ref a, .ref b, .int (Int32.ofNat o), .int (Int32.ofNat len), .null] ∧ Blank "java/lang/String" a D s ∧ Found "java/lang/String" "value" "[B" fV s ∧ Found "java/lang/String" "coder" "B" fC s ∧ Ch b A s ∧ StaticIs s "java/lang/String" "COMPACT_STRINGS" "Z" (.int z) ∧ ¬ z = 0 ∧ 0 < len ∧ o + len ≤ A.slots.size ∧ len ≤ 536870912 ∧ ∀ i, i < len → ¬ 255 < cv A (o + i)
def E (a : Addr) (D : Cell) (fV fC : Field) (A : Cell) (o len : Nat) (r : Option Value) (s u : State) : Prop := Got a D fV fC A o len r s u
/-- len > 0, no char of the range above 255: a Latin-1 String of their low bytes -/
theorem law (l : Launch) (a : Addr) (D : Cell) (fV fC : Field) (b : Addr) (A : Cell) (z : Int32) (o len : Nat) : Law l yN 5 4 2 35 yB 6 none site (P a D fV fC b A z o len) (E a D fV fC A o len) [⟨a, fC.slot⟩, ⟨a, fV.slot⟩] 1 len := by
  refine Law.of_walk (plainFor_of_name (by decide +kernel)) (by decide +kernel) (by decide +kernel) (by decide) (fun _ _ h => by rw [h.1]; rfl) (fun _ U U' hal hh h => ⟨h.1, h.2.1.mv hal hh, h.2.2.1.al hal, h.2.2.2.1.al hal, h.2.2.2.2.1.mv hal hh, h.2.2.2.2.2.1.there hal hh, h.2.2.2.2.2.2⟩) (fun r U U' V V' h1 hal h2 h => Got.mv r U U' V V' h1 hal h2 h) ?_
  intro p e s m args below meth c s₁ X0 hexec hbytes hml hret hlk hnm hown hh0 W hP
  obtain ⟨rfl, hB, f1, f2, hA, s1, hz, l0, l1, l2, hp⟩ := hP
  have a31 := hA.1.2.2.2
  have c1 : Steps p.tables e below (s₁.setTop (entryFrame m #[.ref a, .ref b, .int (Int32.ofNat o), .int (Int32.ofNat len), .null] 6)) (s₁.setTop (mkF m 0 #[.val (.ref a), .val (.ref b), .val (.int (Int32.ofNat o)), .val (.int (Int32.ofNat len)), .val .null, .unset] [])) := entry rfl
  have c2 : Steps p.tables e below (s₁.setTop (entryFrame m #[.ref a, .ref b, .int (Int32.ofNat o), .int (Int32.ofNat len), .null] 6)) (s₁.setTop (mkF m 1 #[.val (.ref a), .val (.ref b), .val (.int (Int32.ofNat o)), .val (.int (Int32.ofNat len)), .val .null, .unset] [.ref a])) := c1.trans (by
    refine XS.aloadN X0.here hexec rfl (hb hbytes d0) rfl rfl ?_
    exact Steps.refl _)
  obtain ⟨T3, X3, q3, st3⟩ := X0.oinit hexec hown (wks W (objW "java/lang/String" 1)) (g := (mkF m 1 #[.val (.ref a), .val (.ref b), .val (.int (Int32.ofNat o)), .val (.int (Int32.ofNat len)), .val .null, .unset] [.ref a])) rfl (by rw [hml]; rfl) (rest := []) rfl (hb hbytes d1) (W := 0) (by show 2 * 0 + 0 ≤ _; decide) (Nat.le_of_ble_eq_true rfl) (Nat.le_of_ble_eq_true rfl)
  have hh3 := q3.trans hh0
  have c4 : Steps p.tables e below (s₁.setTop (entryFrame m #[.ref a, .ref b, .int (Int32.ofNat o), .int (Int32.ofNat len), .null] 6)) (T3.setTop (mkF m 27 #[.val (.ref a), .val (.ref b), .val (.int (Int32.ofNat o)), .val (.int (Int32.ofNat len)), .val .null, .unset] [])) := (c2.trans (st3 _ (Steps.refl _))).trans (by
    refine XS.iloadN X3.here hexec rfl (hb hbytes d4) rfl ?_
    refine XS.ifYes X3.here hexec rfl (pc0 := 5) rfl (hb hbytes d5) rfl (i0_ne_t (nz32 (by omega) l0)) (by decide) rfl ?_
    exact Steps.refl _)
  obtain ⟨T5, X5, q5, st5⟩ := X3.sget hexec hown (wk W (.fieldLink "java/lang/String" 38 "java/lang/String" "COMPACT_STRINGS" "Z")) s1 (fun _ _ h => by rw [hh3]; exact h) (g := (mkF m 27 #[.val (.ref a), .val (.ref b), .val (.int (Int32.ofNat o)), .val (.int (Int32.ofNat len)), .val .null, .unset] [])) rfl (hb hbytes d27)
  have hh5 := q5.trans hh3
  have c6 : Steps p.tables e below (s₁.setTop (entryFrame m #[.ref a, .ref b, .int (Int32.ofNat o), .int (Int32.ofNat len), .null] 6)) (T5.setTop (mkF m 30 #[.val (.ref a), .val (.ref b), .val (.int (Int32.ofNat o)), .val (.int (Int32.ofNat len)), .val .null, .unset] [.int z])) := c4.trans (st5 _ (Steps.refl _))
  have c7 : Steps p.tables e below (s₁.setTop (entryFrame m #[.ref a, .ref b, .int (Int32.ofNat o), .int (Int32.ofNat len), .null] 6)) (T5.setTop (mkF m 36 #[.val (.ref a), .val (.ref b), .val (.int (Int32.ofNat o)), .val (.int (Int32.ofNat len)), .val .null, .unset] [.int (Int32.ofNat len), .int (Int32.ofNat o), .ref b])) := c6.trans (by
    refine XS.ifNo X5.here hexec rfl (hb hbytes d30) rfl (i0_eq_f hz) ?_
    refine XS.aloadN X5.here hexec rfl (hb hbytes d33) rfl rfl ?_
    refine XS.iloadN X5.here hexec rfl (hb hbytes d34) rfl ?_
    refine XS.iloadN X5.here hexec rfl (hb hbytes d35) rfl ?_
    exact Steps.refl _)
  obtain ⟨v8, T8, X8, E8, g8⟩ := X5.callS hexec (Cmp3.law l b A o len) hown (wks W (staticW "java/lang/String" 177 Cmp3.yN)) (wk W Cmp3.tab) (W := 0) (Nat.le_of_ble_eq_true rfl) (Nat.le_of_ble_eq_true rfl) (Nat.le_refl _) (by show 0 + len ≤ len; omega) (g := (mkF m 36 #[.val (.ref a), .val (.ref b), .val (.int (Int32.ofNat o)), .val (.int (Int32.ofNat len)), .val .null, .unset] [.int (Int32.ofNat len), .int (Int32.ofNat o), .ref b])) rfl (by rw [hml]; rfl) c7 (argsL := [.ref b, .int (Int32.ofNat o), .int (Int32.ofNat len)]) (rest := []) rfl rfl (by show 2 * 0 + 0 ≤ _; decide) (hb hbytes d36) (⟨rfl, hA.mv X5.warmed.alike hh5, l1, l2, hp⟩)
  obtain ⟨e8, z8⟩ := E8
  obtain ⟨rfl, N, n1, n2, n3, n4, n5, n6⟩ := NewArr.mv _ T5 s _ _ hh5.symm (Vm.Alike.refl _) rfl e8
  rw [hh5] at z8
  have hB1 := hB.keep X8.warmed.alike (n6 _ _ hB.1)
  have hne : s.heap.size ≠ a := (Nat.ne_of_lt (Array.getElem?_eq_some_iff.mp hB.1).1).symm
  have c9 : Steps p.tables e below (s₁.setTop (entryFrame m #[.ref a, .ref b, .int (Int32.ofNat o), .int (Int32.ofNat len), .null] 6)) (T8.setTop (mkF m 39 #[.val (.ref a), .val (.ref b), .val (.int (Int32.ofNat o)), .val (.int (Int32.ofNat len)), .val .null, .unset] [.ref s.heap.size])) := g8
  have c10 : Steps p.tables e below (s₁.setTop (entryFrame m #[.ref a, .ref b, .int (Int32.ofNat o), .int (Int32.ofNat len), .null] 6)) (T8.setTop (mkF m 45 #[.val (.ref a), .val (.ref b), .val (.int (Int32.ofNat o)), .val (.int (Int32.ofNat len)), .val .null, .val (.ref s.heap.size)] [.int (Int32.ofNat N.slots.size), .ref s.heap.size, .ref a])) := by
    have hc : Steps p.tables e below (s₁.setTop (entryFrame m #[.ref a, .ref b, .int (Int32.ofNat o), .int (Int32.ofNat len), .null] 6)) (T8.setTop (mkF m 45 #[.val (.ref a), .val (.ref b), .val (.int (Int32.ofNat o)), .val (.int (Int32.ofNat len)), .val .null, .val (.ref s.heap.size)] [.int (Int32.ofNat len), .ref s.heap.size, .ref a])) := c9.trans (by
      refine XS.astore X8.here hexec rfl (hb hbytes d39) rfl rfl rfl ?_
      refine XS.aloadN X8.here hexec rfl (hb hbytes d41) rfl rfl ?_
      refine XS.aload X8.here hexec rfl (hb hbytes d42) rfl rfl ?_
      refine XS.iloadN X8.here hexec rfl (hb hbytes d44) rfl ?_
      exact Steps.refl _)
    rw [n4]; exact hc
  obtain ⟨v11, T11, X11, E11, g11⟩ := X8.callS hexec (CodL.law l s.heap.size N) hown (wks W (staticW "java/lang/String" 47 CodL.yN)) (wk W CodL.tab) (W := 1) (Nat.le_of_ble_eq_true rfl) (Nat.le_of_ble_eq_true rfl) (Nat.le_refl _) (by show 0 + len + 0 ≤ len; omega) (g := (mkF m 45 #[.val (.ref a), .val (.ref b), .val (.int (Int32.ofNat o)), .val (.int (Int32.ofNat len)), .val .null, .val (.ref s.heap.size)] [.int (Int32.ofNat N.slots.size), .ref s.heap.size, .ref a])) rfl (by rw [hml]; rfl) c10 (argsL := [.ref s.heap.size, .int (Int32.ofNat N.slots.size)]) (rest := [.ref a]) rfl rfl (by show 2 * 0 + (1 + 0) ≤ _; decide) (hb hbytes d45) (⟨rfl, n1⟩)
  obtain ⟨rfl, q11⟩ := E11
  have hB11 := hB1.mv (X8.warmed.alike.symm.trans X11.warmed.alike) q11
  have c12 : Steps p.tables e below (s₁.setTop (entryFrame m #[.ref a, .ref b, .int (Int32.ofNat o), .int (Int32.ofNat len), .null] 6)) (T11.setTop (mkF m 48 #[.val (.ref a), .val (.ref b), .val (.int (Int32.ofNat o)), .val (.int (Int32.ofNat len)), .val .null, .val (.ref s.heap.size)] [.int 0, .ref a])) := g11
  obtain ⟨T13, X13, p13, bl13, sl13, st13⟩ := X11.finit hexec hown (wk W (.fieldLink "java/lang/String" 15 "java/lang/String" "coder" "B")) (Or.inr ⟨_, (wk W (.laysFinal "java/lang/String" "java/lang/String" "coder" "B"))⟩) (Or.inl ⟨rfl, hnm⟩) f2 (Or.inl rfl) hB11 (t := .byte) (by decide +kernel) rfl (g := (mkF m 48 #[.val (.ref a), .val (.ref b), .val (.int (Int32.ofNat o)), .val (.int (Int32.ofNat len)), .val .null, .val (.ref s.heap.size)] [.int 0, .ref a])) rfl (rest := []) rfl (hb hbytes d48)
  have c14 : Steps p.tables e below (s₁.setTop (entryFrame m #[.ref a, .ref b, .int (Int32.ofNat o), .int (Int32.ofNat len), .null] 6)) (T13.setTop (mkF m 54 #[.val (.ref a), .val (.ref b), .val (.int (Int32.ofNat o)), .val (.int (Int32.ofNat len)), .val .null, .val (.ref s.heap.size)] [.ref s.heap.size, .ref a])) := (c12.trans (st13 _ (Steps.refl _))).trans (by
    refine XS.aloadN X13.here hexec rfl (hb hbytes d51) rfl rfl ?_
    refine XS.aload X13.here hexec rfl (hb hbytes d52) rfl rfl ?_
    exact Steps.refl _)
  obtain ⟨T15, X15, p15, bl15, sl15, st15⟩ := X13.finit hexec hown (wk W (.fieldLink "java/lang/String" 9 "java/lang/String" "value" "[B")) (Or.inr ⟨_, (wk W (.laysFinal "java/lang/String" "java/lang/String" "value" "[B"))⟩) (Or.inl ⟨rfl, hnm⟩) f1 (Or.inl rfl) bl13 (t := (.array .byte)) (by decide +kernel) rfl (g := (mkF m 54 #[.val (.ref a), .val (.ref b), .val (.int (Int32.ofNat o)), .val (.int (Int32.ofNat len)), .val .null, .val (.ref s.heap.size)] [.ref s.heap.size, .ref a])) rfl (rest := []) rfl (hb hbytes d54)
  have c16 : Steps p.tables e below (s₁.setTop (entryFrame m #[.ref a, .ref b, .int (Int32.ofNat o), .int (Int32.ofNat len), .null] 6)) (T15.setTop (mkF m 57 #[.val (.ref a), .val (.ref b), .val (.int (Int32.ofNat o)), .val (.int (Int32.ofNat len)), .val .null, .val (.ref s.heap.size)] [])) := c14.trans (st15 _ (Steps.refl _))
  have ap := apart (Or.inr ⟨_, (wk W (.laysFinal "java/lang/String" "java/lang/String" "value" "[B"))⟩) (Or.inr ⟨_, (wk W (.laysFinal "java/lang/String" "java/lang/String" "coder" "B"))⟩) f1 f2 (t₁ := .array .byte) (t₂ := .byte) (by decide +kernel) (by decide +kernel) (by decide)
  have al := X8.warmed.alike.symm.trans X15.warmed.alike
  have n7 : T11.heap[s.heap.size]? = some N := by rw [q11]; exact n1.1
  exact ⟨T15, none, _, _, _, X15, by simp, rfl, by omega, (fun _ => rfl), ⟨rfl, _, N, bl15, ((Same.refl D _).set _ (by simp)).set _ (by simp), sl15, (Cell.slots_setSlot_ne _ ap).trans sl13, n1.keep al (p15.other hne (p13.other hne n7)), n2, by rw [al.findClass]; exact n3, n4, n5, fun y c h1 h2 => p15.other h1 (p13.other h1 (by rw [q11]; exact n6 y c h2)), by rw [p15.2.2, p13.2.2, q11]; exact z8⟩, fun fs hl => c16.trans (X15.returnOut hexec hret (hb hbytes d57) hl)⟩
end New4
namespace New1
def yN : MethodName := ⟨"java/lang/String", "<init>", "([C)V"⟩
abbrev yB : ByteArray := jdk_42_method_3_code
theorem d0 : decode yB 0 = .ok (.aload_n 0, 1) := by decide +kernel
theorem d1 : decode yB 1 = .ok (.aload_n 1, 1) := by decide +kernel
theorem d2 : decode yB 2 = .ok (.iconst 0, 1) := by decide +kernel
theorem d3 : decode yB 3 = .ok (.aload_n 1, 1) := by decide +kernel
theorem d4 : decode yB 4 = .ok (.arraylength, 1) := by decide +kernel
theorem d5 : decode yB 5 = .ok (.aconst_null, 1) := by decide +kernel
theorem d6 : decode yB 6 = .ok (.invokespecial 27, 3) := by decide +kernel
theorem d9 : decode yB 9 = .ok (.return_, 1) := by decide +kernel
def site : List Cond := [New4.tab] ++ initW "java/lang/String" 27 New4.yN
def tab : Cond := tabOf yN yB 2 none site
def P (a : Addr) (D : Cell) (fV fC : Field) (b : Addr) (A : Cell) (z : Int32) (args : Array Value) (s : State) : Prop := args = #[.ref a, .ref b] ∧ Blank "java/lang/String" a D s ∧ Found "java/lang/String" "value" "[B" fV s ∧ Found "java/lang/String" "coder" "B" fC s ∧ Ch b A s ∧ StaticIs s "java/lang/String" "COMPACT_STRINGS" "Z" (.int z) ∧ ¬ z = 0 ∧ 0 < A.slots.size ∧ A.slots.size ≤ 536870912 ∧ ∀ i, i < A.slots.size → ¬ 255 < cv A i
def E (a : Addr) (D : Cell) (fV fC : Field) (A : Cell) (r : Option Value) (s u : State) : Prop := Got a D fV fC A 0 A.slots.size r s u
/-- new String(chars), not empty, no char above 255: a Latin-1 String of their low bytes -/
theorem law (l : Launch) (a : Addr) (D : Cell) (fV fC : Field) (b : Addr) (A : Cell) (z : Int32) : Law l yN 2 1 3 52 yB 2 none site (P a D fV fC b A z) (E a D fV fC A) [⟨a, fC.slot⟩, ⟨a, fV.slot⟩] 1 A.slots.size := by
  refine Law.of_walk (plainFor_of_name (by decide +kernel)) (by decide +kernel) (by decide +kernel) (by decide) (fun _ _ h => by rw [h.1]; rfl) (fun _ U U' hal hh h => ⟨h.1, h.2.1.mv hal hh, h.2.2.1.al hal, h.2.2.2.1.al hal, h.2.2.2.2.1.mv hal hh, h.2.2.2.2.2.1.there hal hh, h.2.2.2.2.2.2⟩) (fun r U U' V V' h1 hal h2 h => Got.mv r U U' V V' h1 hal h2 h) ?_
  intro p e s m args below meth c s₁ X0 hexec hbytes hml hret hlk hnm hown hh0 W hP
  obtain ⟨rfl, hB, f1, f2, hA, s1, hz, l0, l2, hp⟩ := hP
  have c1 : Steps p.tables e below (s₁.setTop (entryFrame m #[.ref a, .ref b] 2)) (s₁.setTop (mkF m 0 #[.val (.ref a), .val (.ref b)] [])) := entry rfl
  have c2 : Steps p.tables e below (s₁.setTop (entryFrame m #[.ref a, .ref b] 2)) (s₁.setTop (mkF m 6 #[.val (.ref a), .val (.ref b)] [.null, .int (Int32.ofNat A.slots.size), .int 0, .ref b, .ref a])) := c1.trans (by
    refine XS.aloadN X0.here hexec rfl (hb hbytes d0) rfl rfl ?_
    refine XS.aloadN X0.here hexec rfl (hb hbytes d1) rfl rfl ?_
    refine iconstV X0.here hexec rfl 0 (hb hbytes d2) (by decide) ?_
    refine XS.aloadN X0.here hexec rfl (hb hbytes d3) rfl rfl ?_
    refine X0.alen hexec (hA.1.mv X0.warmed.alike hh0) rfl rfl (hb hbytes d4) ?_
    refine XS.aconstNull X0.here hexec rfl (hb hbytes d5) ?_
    exact Steps.refl _)
  obtain ⟨v3, T3, X3, E3, g3⟩ := X0.callN hexec (New4.law l a D fV fC b A z 0 A.slots.size) rfl hown (wks W (initW "java/lang/String" 27 New4.yN)) (W New4.tab (by simp only [site, List.mem_cons, List.mem_append, true_or, or_true])) (W := 0) (Nat.le_of_ble_eq_true rfl) (Nat.le_of_ble_eq_true rfl) (Nat.le_refl _) (by show 0 + A.slots.size ≤ A.slots.size; omega) (g := (mkF m 6 #[.val (.ref a), .val (.ref b)] [.null, .int (Int32.ofNat A.slots.size), .int (Int32.ofNat 0), .ref b, .ref a])) rfl (by rw [hml]; rfl) c2 (argsL := [.ref b, .int (Int32.ofNat 0), .int (Int32.ofNat A.slots.size), .null]) (rest := []) rfl rfl (by show 2 * 0 + 0 ≤ _; decide) (hb hbytes d6) (⟨rfl, hB.mv X0.warmed.alike hh0, f1.al X0.warmed.alike, f2.al X0.warmed.alike, hA.mv X0.warmed.alike hh0, s1.there X0.warmed.alike hh0, hz, l0, by omega, l2, fun i hi => by rw [Nat.zero_add]; exact hp i hi⟩)
  have e0 := Got.mv _ s₁ s _ _ hh0.symm (Vm.Alike.refl _) rfl E3
  obtain rfl := e0.1
  have c4 : Steps p.tables e below (s₁.setTop (entryFrame m #[.ref a, .ref b] 2)) (T3.setTop (mkF m 9 #[.val (.ref a), .val (.ref b)] [])) := g3
  exact ⟨T3, none, _, _, _, X3, by simp, rfl, by omega, (fun _ => rfl), e0, fun fs hl => c4.trans (X3.returnOut hexec hret (hb hbytes d9) hl)⟩
theorem pays {l : Launch} {R : Room} {p : Program} {e : Env} {below : List Frame} {s : State} {sargs : Array Value} {len W : Nat} (a : Addr) (D : Cell) (fV fC : Field) (b : Addr) (A : Cell) (z : Int32) (htab : tab.before sargs s = true) (hfr : 4 ≤ R.frames) (hlo : W + 65 ≤ R.locals) :
    Back l R p e below s sargs yN len W (fun A₁ a₁ => A₁.cells + 1 ≤ R.cells ∧ A₁.slots + A.slots.size ≤ R.slots ∧ P a D fV fC b A z a₁ A₁.U) (fun A₁ _ v₁ B₁ => E a D fV fC A v₁ A₁.U B₁.U ∧ B₁.locs = A₁.locs ++ [⟨a, fC.slot⟩, ⟨a, fV.slot⟩] ∧ B₁.cells = A₁.cells + 1 ∧ B₁.slots = A₁.slots + A.slots.size) :=
  (law l a D fV fC b A z).pays htab hfr (by omega)
end New1
/-- the byte, read back as charAt reads it, is the char -/
theorem lo8_mask {x : Int32} (h0 : ¬ x < 0) (h1 : ¬ 255 < x) : lo8 x &&& 255 = x := by
  have t : ∀ k : Fin 256, lo8 (Int32.ofNat k.val) &&& 255 = Int32.ofNat k.val := by decide +kernel
  rw [Int32.lt_iff_toInt_lt] at h0 h1
  have e0 : (0 : Int32).toInt = 0 := rfl
  have e1 : (255 : Int32).toInt = 255 := rfl
  obtain ⟨k, hk⟩ : ∃ k : Nat, x.toInt = k := ⟨x.toInt.toNat, by omega⟩
  have hx : x = Int32.ofNat k := Int32.toInt_inj.mp (by rw [hk, Int32.toInt_ofNat_small (by omega)])
  rw [hx]
  exact t ⟨k, by omega⟩
end StrChars
namespace StrChars.Road
open Jvm Sem ClassFile Op Lib Jvm.Stand Jvm.Free Jvm.Free.XT
open Jvm.Lib.Cold (StaticIs)
abbrev ST : String := "java/lang/String"
/-- every table word that New1's law asks, flat -/
abbrev words : List Jvm.Cond := [.code New1.yN New1.yB 2 none, .initialized ST, .methodLink ST 27 New4.yN, .instanceMethod New4.yN,
  .code New4.yN New4.yB 6 none, .fieldLink ST 38 ST "COMPACT_STRINGS" "Z", .laysFinal ST ST "value" "[B", .fieldLink ST 9 ST "value" "[B", .laysFinal ST ST "coder" "B", .fieldLink ST 15 ST "coder" "B",
  .methodLink ST 1 Lib.objectInit, .instanceMethod Lib.objectInit, .code Lib.objectInit ⟨#[0xb1]⟩ 1 none, .methodLink ST 177 Cmp3.yN, .static Cmp3.yN, .methodLink ST 47 CodL.yN, .static CodL.yN,
  .code Cmp3.yN Cmp3.yB 6 (some (.array .byte)), .initialized U16, .arrayClass .byte, .methodLink U16 115 Cmp5.yN, .static Cmp5.yN, .code Cmp5.yN Cmp5.yB 7 (some .int), .code CodL.yN CodL.yB 2 (some .byte)]
theorem tab_of {a : Array Value} {s : State} (h : ∀ w ∈ words, w.before a s = true) : New1.tab.before a s = true := by
  have h5 : Cmp5.tab.before a s = true := unparts (wk h (.code Cmp5.yN Cmp5.yB 7 (some .int))) (wks h (.initialized Cmp5.yN.cls :: Cmp5.site))
  have hc : CodL.tab.before a s = true := unparts (wk h (.code CodL.yN CodL.yB 2 (some .byte))) (wks h (.initialized CodL.yN.cls :: CodL.site))
  have q5 : ∀ w ∈ Cmp5.tab :: words, w.before a s = true := fun w hw => (List.mem_cons.mp hw).elim (fun e => e ▸ h5) (h w)
  have h3 : Cmp3.tab.before a s = true := unparts (wk q5 (.code Cmp3.yN Cmp3.yB 6 (some (.array .byte)))) (wks q5 (.initialized Cmp3.yN.cls :: Cmp3.site))
  have q3 : ∀ w ∈ Cmp3.tab :: CodL.tab :: words, w.before a s = true := fun w hw => (List.mem_cons.mp hw).elim (fun e => e ▸ h3) fun hw => (List.mem_cons.mp hw).elim (fun e => e ▸ hc) (h w)
  have h4 : New4.tab.before a s = true := unparts (wk q3 (.code New4.yN New4.yB 6 none)) (wks q3 (.initialized New4.yN.cls :: New4.site))
  have q4 : ∀ w ∈ New4.tab :: words, w.before a s = true := fun w hw => (List.mem_cons.mp hw).elim (fun e => e ▸ h4) (h w)
  exact unparts (wk q4 (.code New1.yN New1.yB 2 none)) (wks q4 (.initialized New1.yN.cls :: New1.site))
/-- the words ride from the start Z to the walk's own state -/
theorem moved {Z s : State} {a0 args : Array Value} (hZ : Z.Warmed39 s.vm) (hw : ∀ d ∈ words, d.before a0 Z = true) : ∀ d ∈ words, d.before args s = true := fun d hd => by
  have q := hw d hd
  have t : ∀ d ∈ words, d = .arrayClass .byte ∨ (d.onTables && d.keepsFace) = true := by decide +kernel
  rcases t d hd with rfl | t
  · exact RoadKit.mvA hZ q
  · exact RoadKit.mv hZ q t
/-- WHAT COMES BACK, over the tables of the start Z: h the heap at the call, h' behind it -/
def Q (Z : State) (x : Addr) (A : Cell) (h : Heap) (v : Option Value) (h' : Heap) (L : List Loc) : Prop := v = none ∧ (∀ y ∈ L, y.base = x) ∧ RoadKit.Keep h h' [x] ∧ h'.size = h.size + 1 ∧ RoadKit.Exa Z h' x ST ∧ RoadKit.Fld Z h' x ST "value" "[B" (.ref h.size) ∧ RoadKit.Fld Z h' x ST "coder" "B" (.int 0) ∧
  (∃ V : Cell, RoadKit.Arr Z h' h.size V .byte ∧ V.vm = .none ∧ Z.vm.findClass "[B" = some V.cls ∧ V.slots.size = A.slots.size ∧ ∀ j, j < A.slots.size → V.slots[j]? = some (.int (lo8 (cv A j)))) ∧
  ∀ (O n d : String) (w : Value), RoadKit.Fld Z h x O n d w → RoadKit.slotOf Z O n d ≠ RoadKit.slotOf Z ST "value" "[B" → RoadKit.slotOf Z O n d ≠ RoadKit.slotOf Z ST "coder" "B" → RoadKit.Fld Z h' x O n d w
/-- **new String(chars) AT A CALL, IN THE ROAD'S FORM**: for specialBack behind newO: x the fresh String, b the char[] with the cell A -/
theorem back {p : Program} {l : Launch} {e : Env} {R : Room} {s : State} {args : Array Value} {below : List Frame} {len W : Nat} {Z : State} {a0 : Array Value} {h : Heap} (hZ : Z.Warmed39 s.vm) (hw : ∀ d ∈ words, d.before a0 Z = true) {kI : Nat} (wi : (Jvm.Cond.instantiable ST kI).before a0 Z = true)
    {x b : Addr} {A : Cell} {z : Int32} {v0 c0 : Value} (E : RoadKit.Exa Z h x ST) (V : RoadKit.Fld Z h x ST "value" "[B" v0) (C : RoadKit.Fld Z h x ST "coder" "B" c0) (K : RoadKit.Arr Z h b A .char) (hty : Typed .char A) (S : RoadKit.Sta Z h ST "COMPACT_STRINGS" "Z" (.int z)) (hz : ¬ z = 0)
    (l0 : 0 < A.slots.size) (l2 : A.slots.size ≤ 536870912) (hp : ∀ i, i < A.slots.size → ¬ 255 < cv A i) (hfr : 4 ≤ R.frames) (hlo : W + 65 ≤ R.locals) :
    Back l R p e below s args New1.yN len W (fun P a => a = #[.ref x, .ref b] ∧ P.U.heap = h ∧ P.cells + 1 ≤ R.cells ∧ P.slots + A.slots.size ≤ R.slots)
      (fun P _ v B => ∃ L, Q Z x A h v B.U.heap L ∧ B.locs = P.locs ++ L ∧ B.cells = P.cells + 1 ∧ B.slots = P.slots + A.slots.size) := by
  intro m meth c P g ig mk a X hg hsize hdg hW hn hp'
  obtain ⟨rfl, rfl, r1, r2⟩ := hp'
  have al : Z.vm.Alike P.U.vm := hZ.alike.trans X.warmed.alike
  obtain ⟨D, cfV, kV, iV, fV, hD, gV, stV, knV, obV, asV, slV⟩ := id V
  obtain ⟨D', cfC, kC, iC, fC, hD', gC, stC, -, -, asC, slC⟩ := id C
  cases hD.symm.trans hD'
  obtain ⟨D2, kD, e1, e2, e3, e4, e5⟩ := id E
  cases hD.symm.trans e1
  obtain ⟨c2, k2, i1, i2, i3, -⟩ := Cond.instantiable_spec wi
  cases e2.symm.trans i1
  cases e3.symm.trans i2
  obtain ⟨kU, u1, u2⟩ := al.2.2 _ _ e3
  have hB : Blank ST x D P.U := ⟨hD, ⟨knV, fun q hq => by rw [hq] at obV; cases obV⟩, by rw [al.findClass]; exact e2, kU, u1, by rw [u2]; exact i3, by rw [u2]; exact e5 i3⟩
  have F1 : Found ST "value" "[B" fV P.U := ⟨SBG.found_only al ⟨cfV, kV, iV, gV⟩, stV⟩
  have F2 : Found ST "coder" "B" fC P.U := ⟨SBG.found_only al ⟨cfC, kC, iC, gC⟩, stC⟩
  have hA : Ch b A P.U := ⟨⟨K.1, State.isArrayOf_alike al K.2.1, K.2.2, by omega⟩, hty⟩
  have hS : StaticIs P.U ST "COMPACT_STRINGS" "Z" (.int z) := by
    obtain ⟨cfS, iS, kS, fS, st, cS, t1, t2, t3, t4, t5, t6, t7⟩ := S
    exact StaticIs.there (s := { Z with heap := P.U.heap }) ⟨cfS, iS, kS, fS, st, cS, t1, t2, t3, t4, t5, (fun q => by rw [q] at t6; cases t6), t7⟩ al rfl
  obtain ⟨v, B, X', ⟨⟨hv, E', V', q1, q2, q3, q4, q5, q6, q7, q8, q9, q10, q11⟩, hl, hc, hs⟩, st⟩ := New1.pays x D fV fC b A z (tab_of (moved hZ hw)) hfr hlo m meth c P g ig mk _ X hg hsize hdg hW hn ⟨r1, r2, rfl, hB, F1, F2, hA, hS, hz, l0, l2, hp⟩
  have al' : Z.vm.Alike B.U.vm := hZ.alike.trans X'.warmed.alike
  have hsz : E'.slots.size = D.slots.size := by
    obtain ⟨-, -, -, kB, w1, w2, w3⟩ := q1
    obtain ⟨kB', y1, y2⟩ := al'.2.2 _ _ e3
    rw [q2.2.1] at w1
    cases w1.symm.trans y1
    rw [w3, e5 i3, y2]
  refine ⟨v, B, X', ⟨_, ⟨hv, ?_, ⟨by omega, fun y cy hy hn' => q10 y cy (by simpa using hn') hy, fun y cy hy => ?_⟩, q11, ⟨E', _, q1.1, by rw [q2.2.1]; exact e2, by rw [q2.2.1]; exact e3, by rw [q2.1]; exact obV, fun _ => by rw [hsz]; exact e5 i3⟩,
    ⟨E', cfV, kV, iV, fV, q1.1, gV, stV, by rw [q2.1]; exact knV, by rw [q2.1]; exact obV, by rw [q2.2.1]; exact asV, q3⟩, ⟨E', cfC, kC, iC, fC, q1.1, gC, stC, by rw [q2.1]; exact knV, by rw [q2.1]; exact obV, by rw [q2.2.1]; exact asC, q4⟩,
    ⟨V', ⟨q5.1, State.isArrayOf_alike al'.symm q5.2.1, q5.2.2.1⟩, q6, by rw [← al'.findClass]; exact q7, q8, fun j hj => by have := q9 j hj; rwa [Nat.zero_add] at this⟩, fun O n d w F n1 n2 => ?_⟩, hl, hc, hs⟩, st⟩
  · intro y hy
    simp only [List.mem_cons, List.not_mem_nil, or_false] at hy
    rcases hy with rfl | rfl <;> rfl
  · by_cases q : y = x
    · subst q
      cases hD.symm.trans hy
      exact ⟨E', q1.1, q2.2.1, q2.1, hsz⟩
    · exact ⟨cy, q10 y cy q hy, rfl, rfl, rfl⟩
  · obtain ⟨D3, cf, k, i, f, g1, g2, g3, g4, g5, g6, g7⟩ := F
    cases hD.symm.trans g1
    simp only [RoadKit.slotOf, g2, gV, gC, Option.map_some, Option.getD_some] at n1 n2
    exact ⟨E', cf, k, i, f, q1.1, g2, g3, by rw [q2.1]; exact g4, by rw [q2.1]; exact g5, by rw [q2.2.1]; exact g6, by rw [q2.2.2 f.slot (by simp [n1, n2])]; exact g7⟩
end StrChars.Road
namespace StrChars.Road
open Jvm Sem ClassFile Op Lib Jvm.Stand Jvm.Free Jvm.Free.XT
/-- WHAT COMES BACK, the byte[] as a list of values -/
def QA (Z : State) (x : Addr) (zn : Int32) (cs : List Int32) (h : Heap) (v : Option Value) (h' : Heap) (L : List Loc) : Prop := v = none ∧ (∀ y ∈ L, y.base = x) ∧ RoadKit.Keep h h' [x] ∧ h'.size = h.size + 1 ∧ RoadKit.Exa Z h' x ST ∧ RoadKit.Fld Z h' x ST "value" "[B" (.ref h.size) ∧ RoadKit.Fld Z h' x ST "coder" "B" (.int 0) ∧
  (∃ kb, Z.vm.findClass "[B" = some kb ∧ RoadKit.Arv Z h' h.size kb .byte zn (cs.map fun c => .int (lo8 c)) (.int 0)) ∧
  ∀ (O n d : String) (w : Value), RoadKit.Fld Z h x O n d w → RoadKit.slotOf Z O n d ≠ RoadKit.slotOf Z ST "value" "[B" → RoadKit.slotOf Z O n d ≠ RoadKit.slotOf Z ST "coder" "B" → RoadKit.Fld Z h' x O n d w
/-- **new String(chars) AT A CALL, THE ARRAYS AS LISTS**: the char[] at b holds cs, not empty, no char above 255 -/
theorem backArv {p : Program} {l : Launch} {e : Env} {R : Room} {s : State} {args : Array Value} {below : List Frame} {len W : Nat} {Z : State} {a0 : Array Value} {h : Heap} (hZ : Z.Warmed39 s.vm) (hw : ∀ d ∈ words, d.before a0 Z = true) {kI : Nat} (wi : (Jvm.Cond.instantiable ST kI).before a0 Z = true)
    {x b : Addr} {k : ClassId} {zn z : Int32} {cs : List Int32} {dv v0 c0 : Value} (E : RoadKit.Exa Z h x ST) (V : RoadKit.Fld Z h x ST "value" "[B" v0) (C : RoadKit.Fld Z h x ST "coder" "B" c0) (K : RoadKit.Arv Z h b k .char zn (cs.map Value.int) dv) (S : RoadKit.Sta Z h ST "COMPACT_STRINGS" "Z" (.int z)) (hz : ¬ z = 0)
    (hlen : zn.toNatClampNeg = cs.length) (h0 : 0 < cs.length) (hbig : cs.length ≤ 536870912) (hall : ∀ c ∈ cs, ¬ 255 < c) (hfr : 4 ≤ R.frames) (hlo : W + 65 ≤ R.locals) :
    Back l R p e below s args New1.yN len W (fun P a => a = #[.ref x, .ref b] ∧ P.U.heap = h ∧ P.cells + 1 ≤ R.cells ∧ P.slots + cs.length ≤ R.slots)
      (fun P _ v B => ∃ L, QA Z x zn cs h v B.U.heap L ∧ B.locs = P.locs ++ L ∧ B.cells = P.cells + 1 ∧ B.slots = P.slots + cs.length) := by
  obtain ⟨A, K1, K2, K3, K4, K5, K6⟩ := K
  have e : A.slots.size = cs.length := K3.trans hlen
  have hat : ∀ (i : Nat) (hi : i < cs.length), A.slots[i]? = some (.int cs[i]) := fun i hi => by rw [K5 i (by omega)]; simp [List.getD_eq_getElem?_getD, hi]
  have hcv : ∀ (i : Nat) (hi : i < cs.length), cv A i = cs[i] := fun i hi => by unfold cv; rw [hat i hi]
  have hty : Typed .char A := fun i v hv => by
    have hi : i < A.slots.size := (Array.getElem?_eq_some_iff.mp hv).1
    have q := K5 i hi
    rw [hv] at q
    rw [Option.some.inj q]
    exact K6 i hi
  refine Back.mono (back hZ hw wi E V C K1 hty S hz (by omega) (by omega) (fun i hi => by rw [hcv i (by omega)]; exact hall _ (List.getElem_mem _)) hfr hlo) (fun P a hp => ⟨hp.1, hp.2.1, hp.2.2.1, by rw [e]; exact hp.2.2.2⟩) (fun P a v B hp hq => ?_)
  obtain ⟨L, ⟨q1, q2, q3, q4, q5, q6, q7, ⟨V', v1, v2, v3, v4, v5⟩, q9⟩, hl, hc, hs⟩ := hq
  refine ⟨L, ⟨q1, q2, q3, q4, q5, q6, q7, ⟨V'.cls, v3, V', v1, rfl, by rw [v4, e, hlen], K4, fun i hi => ?_, fun i hi => ?_⟩, q9⟩, hl, hc, by rw [hs, e]⟩
  · have hi' : i < cs.length := by omega
    rw [v5 i (by omega), hcv i hi']; simp [List.getD_eq_getElem?_getD, hi']
  · have hi' : i < cs.length := by omega
    simp only [List.getD_eq_getElem?_getD, List.getElem?_map, List.getElem?_eq_getElem hi', Option.map_some, Option.getD_some]
    exact fits_lo8 _
end StrChars.Road
namespace StrChars.Road
open Jvm Sem ClassFile Op Lib Jvm.Stand Jvm.Free Jvm.Free.XT
/-- WHAT COMES BACK, in the writer's own shape -/
def QV (Z : State) (x : Addr) (N : Int32) (bs : List Int32) (h : Heap) (n0 : Nat) (v : Option Value) (h' : Heap) (L : List Loc) : Prop := v = none ∧ RoadKit.Fr n0 L ∧ RoadKit.Keep h h' [x] ∧ RoadKit.Exa Z h' x ST ∧ RoadKit.Fld Z h' x ST "coder" "B" (.int 0) ∧
  ∃ (t : Addr) (kb : ClassId), n0 ≤ t ∧ h.size ≤ t ∧ ¬ t = x ∧ RoadKit.Fld Z h' x ST "value" "[B" (.ref t) ∧ RoadKit.Arv Z h' t kb .byte N (bs.map Value.int) (.int 0)
/-- **new String(chars) AT A CALL, FOR THE WRITER**: a char[] of n known ints, each 0 to 255 -/
theorem backV {p : Program} {l : Launch} {e : Env} {R : Room} {s : State} {args : Array Value} {below : List Frame} {len W : Nat} {Z : State} {a0 : Array Value} {h : Heap} (hZ : Z.Warmed39 s.vm) (hw : ∀ d ∈ words, d.before a0 Z = true) {kI : Nat} (wi : (Jvm.Cond.instantiable ST kI).before a0 Z = true)
    {x b : Addr} {kC : ClassId} {cs bs : List Int32} {d v0 c0 : Value} {z N : Int32} {n n0 : Nat} (hx0 : n0 ≤ x) (hh0 : n0 ≤ h.size) (E : RoadKit.Exa Z h x ST) (V : RoadKit.Fld Z h x ST "value" "[B" v0) (C : RoadKit.Fld Z h x ST "coder" "B" c0) (K : RoadKit.Arv Z h b kC .char N (cs.map Value.int) d) (S : RoadKit.Sta Z h ST "COMPACT_STRINGS" "Z" (.int z)) (hz : ¬ z = 0)
    (hn : cs.length = n) (hN : N = Int32.ofNat n) (l0 : 0 < n) (l2 : n ≤ 4000) (hp : ∀ c ∈ cs, ¬ c < 0 ∧ ¬ (255 : Int32) < c) (hb : bs = cs.map (fun c => c.toInt8.toInt32)) (hfr : 4 ≤ R.frames) (hlo : W + 65 ≤ R.locals) :
    Back l R p e below s args (⟨"java/lang/String", "<init>", "([C)V"⟩ : MethodName) len W (fun P a => a = #[.ref x, .ref b] ∧ P.U.heap = h ∧ P.cells + 1 ≤ R.cells ∧ P.slots + n ≤ R.slots)
      (fun P _ v B => ∃ L, QV Z x N bs h n0 v B.U.heap L ∧ B.locs = P.locs ++ L ∧ B.cells = P.cells + 1 ∧ B.slots = P.slots + n) := by
  subst hn hN hb
  refine Back.mono (backArv hZ hw wi E V C K S hz (n32 (by omega)) l0 (by omega) (fun c hc => (hp c hc).2) hfr hlo) (fun P a hp => hp) (fun P a v B hp hq => ?_)
  obtain ⟨L, ⟨q1, q2, q3, q4, q5, q6, q7, ⟨kb, v1, v2⟩, q9⟩, hl, hc, hs⟩ := hq
  exact ⟨L, ⟨q1, fun y hy => by rw [q2 y hy]; exact hx0, q3, q5, q7, h.size, kb, hh0, Nat.le_refl _, Nat.ne_of_gt E.lt, q6, by rw [List.map_map]; exact v2⟩, hl, hc, hs⟩
end StrChars.Road
namespace StrChars
open Jvm Sem ClassFile Op Lib Jvm.Stand Jvm.Free.XT Jvm.Free.ALB Jvm.Free.JM Jvm.Free
open Jvm.Lib.Cold (StaticIs)
def hi8 (x : Int32) : Int32 := lo8 (x >>> ((8 : Int32) &&& 31))
/-- what StringUTF16.getChar makes of two bytes -/
def pairCh (u v : Int32) : Int32 := (((u &&& 255) <<< ((0 : Int32) &&& 31)) ||| ((v &&& 255) <<< ((8 : Int32) &&& 31))).toUInt32.toUInt16.toUInt32.toInt32
theorem lo8_and (x : Int32) : (lo8 x &&& 255).toBitVec.toNat = x.toBitVec.toNat % 256 := by
  have h : (lo8 x).toBitVec = (x.toBitVec.signExtend 8).signExtend 32 := by rw [lo8, Int8.toBitVec_toInt32, Int32.toBitVec_toInt8]
  rw [Int32.toBitVec_and, BitVec.toNat_and, h]
  have e : ((x.toBitVec.signExtend 8).signExtend 32).toNat % 256 = x.toBitVec.toNat % 256 := by
    rw [BitVec.toNat_signExtend]
    have hlt := x.toBitVec.isLt
    simp only [BitVec.toNat_setWidth, BitVec.toNat_signExtend]
    split <;> split <;> omega
  rw [← e]
  exact Nat.and_two_pow_sub_one_eq_mod _ 8
theorem pair_says {c : Int32} (h0 : ¬ c < 0) (h1 : ¬ 65535 < c) : pairCh (lo8 c) (hi8 c) = c := by
  rw [Int32.lt_iff_toInt_lt] at h0 h1
  have e0 : (0 : Int32).toInt = 0 := rfl
  have e1 : (65535 : Int32).toInt = 65535 := rfl
  have hc : c.toInt = c.toBitVec.toNat := by
    have := c.toBitVec.isLt
    have e : c.toInt = c.toBitVec.toInt := rfl
    rw [e] at h0 h1
    rw [e]
    rw [BitVec.toInt_eq_toNat_cond] at h0 h1 ⊢
    split at h0 <;> split <;> omega
  have hn : c.toBitVec.toNat < 65536 := by omega
  have a1 := lo8_and c
  have a2 : (hi8 c &&& 255).toBitVec.toNat = c.toBitVec.toNat / 256 := by
    rw [hi8, lo8_and]
    have e : ((8 : Int32) &&& 31) = 8 := by decide
    rw [e, Int32.toBitVec_shiftRight]
    have e2 : ((8 : Int32).toBitVec.smod 32) = 8#32 := by decide
    rw [e2, BitVec.sshiftRight_eq', BitVec.toNat_sshiftRight_of_msb_false (by rw [BitVec.msb_eq_false_iff_two_mul_lt]; omega)]
    show c.toBitVec.toNat >>> 8 % 256 = _
    rw [Nat.shiftRight_eq_div_pow]
    omega
  unfold pairCh
  apply Int32.toBitVec_inj.mp
  apply BitVec.eq_of_toNat_eq
  have f0 : ((0 : Int32) &&& 31) = 0 := by decide
  have f8 : ((8 : Int32) &&& 31) = 8 := by decide
  rw [f0, f8]
  have g : (((lo8 c &&& 255) <<< (0 : Int32)) ||| ((hi8 c &&& 255) <<< (8 : Int32))).toBitVec.toNat = c.toBitVec.toNat := by
    rw [Int32.toBitVec_or, Int32.toBitVec_shiftLeft, Int32.toBitVec_shiftLeft]
    have s0 : ((0 : Int32).toBitVec.smod 32) = 0#32 := by decide
    have s8 : ((8 : Int32).toBitVec.smod 32) = 8#32 := by decide
    rw [s0, s8, BitVec.toNat_or]
    simp only [BitVec.shiftLeft_eq', BitVec.toNat_shiftLeft, a1, a2]
    show (c.toBitVec.toNat % 256) <<< 0 % 2 ^ 32 ||| (c.toBitVec.toNat / 256) <<< 8 % 2 ^ 32 = _
    rw [Nat.shiftLeft_zero, Nat.mod_eq_of_lt (show c.toBitVec.toNat % 256 < 2 ^ 32 by omega), Nat.mod_eq_of_lt (show (c.toBitVec.toNat / 256) <<< 8 < 2 ^ 32 by rw [Nat.shiftLeft_eq]; omega), Nat.or_comm, ← Nat.shiftLeft_add_eq_or_of_lt (by omega), Nat.shiftLeft_eq]
    omega
  show BitVec.toNat (((((lo8 c &&& 255) <<< (0 : Int32)) ||| ((hi8 c &&& 255) <<< (8 : Int32))).toBitVec.setWidth 16).setWidth 32) = _
  rw [BitVec.toNat_setWidth, BitVec.toNat_setWidth, g]
  omega
end StrChars
namespace StrChars
open Jvm Sem ClassFile Op Lib Jvm.Stand Jvm.Free.XT Jvm.Free.ALB Jvm.Free.JM Jvm.Free
open Jvm.Lib.Cold (StaticIs)
/-- the array's cell V codes the n chars f 0 .. f (n - 1) by the coder cd, as the JDK does: coder 1 just where some char is above 255 -/
def Cod (cd : Int32) (n : Nat) (f : Nat → Int32) (V : Cell) : Prop := (cd = 0 ∧ V.slots.size = n ∧ ∀ j, j < n → V.slots[j]? = some (.int (lo8 (f j))) ∧ ¬ 255 < f j) ∨ (cd = 1 ∧ V.slots.size = 2 * n ∧ (∀ j, j < n → V.slots[2 * j]? = some (.int (lo8 (f j))) ∧ V.slots[2 * j + 1]? = some (.int (hi8 (f j)))) ∧ ∃ j, j < n ∧ 255 < f j)
/-- **x is a String of the n chars f 0 .. f (n - 1)**, Latin-1 or UTF-16; its array at t has the cell V -/
def Txt (x t : Addr) (V : Cell) (cd : Int32) (n : Nat) (f : Nat → Int32) (U : State) : Prop := Exact "java/lang/String" x U ∧ Has x "java/lang/String" "value" "[B" (.ref t) U ∧ Has x "java/lang/String" "coder" "B" (.int cd) U ∧ XT.Arr .byte t V U ∧ Cod cd n f V ∧ ∀ j, j < n → ¬ f j < 0 ∧ ¬ 65535 < f j
theorem Txt.mv {x t : Addr} {V : Cell} {cd : Int32} {n : Nat} {f : Nat → Int32} {U U' : State} (h : Txt x t V cd n f U) (hal : U.vm.Alike U'.vm) (hh : U'.heap = U.heap) : Txt x t V cd n f U' := ⟨h.1.mv hal hh, h.2.1.mv hal hh, h.2.2.1.mv hal hh, h.2.2.2.1.mv hal hh, h.2.2.2.2⟩
end StrChars
namespace StrChars.Road
open Jvm Sem ClassFile Op Lib Jvm.Stand Jvm.Free Jvm.Free.XT
open Jvm.Lib.Cold (StaticIs)
theorem consq {a : Array Value} {s : State} {c : Jvm.Cond} {L : List Jvm.Cond} (h0 : c.before a s = true) (h : ∀ w ∈ L, w.before a s = true) : ∀ w ∈ c :: L, w.before a s = true := fun w hw => (List.mem_cons.mp hw).elim (fun e => e ▸ h0) (h w)
/-- the bytes of the chars cs, low before high -/
def wideBytes : List Int32 → List Value
  | [] => []
  | c :: cs => .int (lo8 c) :: .int (hi8 c) :: wideBytes cs
theorem wide_lo (d : Value) : ∀ (cs : List Int32) (j : Nat), j < cs.length → (wideBytes cs).getD (2 * j) d = .int (lo8 (cs.getD j 0))
  | [], j, h => absurd h (Nat.not_lt_zero j)
  | c :: cs, 0, _ => rfl
  | c :: cs, j + 1, h => by
    have q := wide_lo d cs j (by simpa using h)
    rw [show 2 * (j + 1) = 2 * j + 1 + 1 from by omega]
    simpa [wideBytes] using q
theorem wide_hi (d : Value) : ∀ (cs : List Int32) (j : Nat), j < cs.length → (wideBytes cs).getD (2 * j + 1) d = .int (hi8 (cs.getD j 0))
  | [], j, h => absurd h (Nat.not_lt_zero j)
  | c :: cs, 0, _ => rfl
  | c :: cs, j + 1, h => by
    have q := wide_hi d cs j (by simpa using h)
    rw [show 2 * (j + 1) + 1 = 2 * j + 1 + 1 + 1 from by omega]
    simpa [wideBytes] using q
theorem low_at (d : Value) (cs : List Int32) (j : Nat) (h : j < cs.length) : (cs.map fun c => Value.int (lo8 c)).getD j d = .int (lo8 (cs.getD j 0)) := by
  simp [List.getD_eq_getElem?_getD, h]
/-- an array of N2 bytes vs codes the chars cs by the coder cd -/
def CodA (cs : List Int32) (cd N2 : Int32) (vs : List Value) : Prop := (cd = 0 ∧ N2 = Int32.ofNat cs.length ∧ vs = (cs.map fun c => Value.int (lo8 c)) ∧ ∀ c ∈ cs, ¬ 255 < c) ∨ (cd = 1 ∧ N2 = Int32.ofNat (2 * cs.length) ∧ vs = wideBytes cs ∧ ∃ c ∈ cs, 255 < c)
theorem CodA.cod {cs : List Int32} {cd N2 : Int32} {vs : List Value} {V : Cell} (h : CodA cs cd N2 vs) (hn : 2 * cs.length < 2 ^ 31) (hs : V.slots.size = N2.toNatClampNeg) (hv : RoadKit.Has V vs (.int 0)) : Cod cd cs.length (fun j => cs.getD j 0) V := by
  rcases h with ⟨rfl, rfl, rfl, h⟩ | ⟨rfl, rfl, rfl, c, hc, hw⟩
  · rw [n32 (by omega)] at hs
    exact Or.inl ⟨rfl, hs, fun j hj => ⟨by rw [hv j (by omega), low_at _ _ _ hj], by
      have e : cs.getD j 0 = cs[j] := by simp [List.getD_eq_getElem?_getD, hj]
      show ¬ 255 < cs.getD j 0
      rw [e]; exact h _ (List.getElem_mem _)⟩⟩
  · rw [n32 (by omega)] at hs
    obtain ⟨j, hj, rfl⟩ := List.getElem_of_mem hc
    exact Or.inr ⟨rfl, hs, fun j hj => ⟨by rw [hv _ (by omega), wide_lo _ _ _ hj], by rw [hv _ (by omega), wide_hi _ _ _ hj]⟩, j, hj, by
      have e : cs.getD j 0 = cs[j] := by simp [List.getD_eq_getElem?_getD, hj]
      show 255 < cs.getD j 0
      rw [e]; exact hw⟩
/-- an object of exactly java/lang/String, its two fields found: as the laws ask it -/
theorem strObj {Z U : State} {a0 : Array Value} {kI : Nat} (wi : (Jvm.Cond.instantiable ST kI).before a0 Z = true) (al : Z.vm.Alike U.vm) {x : Addr} {v0 c0 : Value} (E : RoadKit.Exa Z U.heap x ST) (V : RoadKit.Fld Z U.heap x ST "value" "[B" v0) (C : RoadKit.Fld Z U.heap x ST "coder" "B" c0) :
    ∃ (D : Cell) (fV fC : Field), Blank ST x D U ∧ Found ST "value" "[B" fV U ∧ Found ST "coder" "B" fC U ∧ D.slots[fV.slot]? = some v0 ∧ D.slots[fC.slot]? = some c0 ∧ RoadKit.slotOf Z ST "value" "[B" = fV.slot ∧ RoadKit.slotOf Z ST "coder" "B" = fC.slot := by
  obtain ⟨D, cfV, kV, iV, fV, hD, gV, stV, knV, obV, asV, slV⟩ := V
  obtain ⟨D', cfC, kC, iC, fC, hD', gC, stC, -, -, asC, slC⟩ := C
  cases hD.symm.trans hD'
  obtain ⟨D2, kD, e1, e2, e3, e4, e5⟩ := E
  cases hD.symm.trans e1
  obtain ⟨c2, k2, i1, i2, i3, -⟩ := Cond.instantiable_spec wi
  cases e2.symm.trans i1
  cases e3.symm.trans i2
  obtain ⟨kU, u1, u2⟩ := al.2.2 _ _ e3
  exact ⟨D, fV, fC, ⟨hD, ⟨knV, fun q hq => by rw [hq] at obV; cases obV⟩, by rw [al.findClass]; exact e2, kU, u1, by rw [u2]; exact i3, by rw [u2]; exact e5 i3⟩, ⟨SBG.found_only al ⟨cfV, kV, iV, gV⟩, stV⟩, ⟨SBG.found_only al ⟨cfC, kC, iC, gC⟩, stC⟩, slV, slC, by simp [RoadKit.slotOf, gV], by simp [RoadKit.slotOf, gC]⟩
theorem sta_is {Z U : State} (al : Z.vm.Alike U.vm) {C n d : String} {v : Value} (S : RoadKit.Sta Z U.heap C n d v) : StaticIs U C n d v := by
  obtain ⟨cfS, iS, kS, fS, st, cS, t1, t2, t3, t4, t5, t6, t7⟩ := S
  exact StaticIs.there (s := { Z with heap := U.heap }) ⟨cfS, iS, kS, fS, st, cS, t1, t2, t3, t4, t5, (fun q => by rw [q] at t6; cases t6), t7⟩ al rfl
end StrChars.Road
namespace StrChars
open Jvm Sem ClassFile Op Lib Jvm.Stand Jvm.Free.XT Jvm.Free.ALB Jvm.Free.JM Jvm.Free
open Jvm.Lib.Cold (StaticIs)
/-- what place i of a byte[]'s cell holds -/
def yv (A : Cell) (i : Nat) : Int32 := match A.slots[i]? with | some (.int x) => x | _ => 0
theorem yv_get {a : Addr} {A : Cell} {U : State} (h : XT.Arr .byte a A U) (ht : Typed .byte A) {i : Nat} (hi : i < A.slots.size) : A.slots[i]? = some (.int (yv A i)) := by
  have e := Array.getElem?_eq_getElem hi
  have f := ht i _ e
  unfold yv; rw [e]
  generalize A.slots[i] = v at f
  cases v <;> simp [fits] at f ⊢
/-- the two arrays are equal, place for place -/
def EqC (A B : Cell) : Prop := A.slots.size = B.slots.size ∧ ∀ i, i < A.slots.size → yv A i = yv B i
/-- a boolean that says whether p -/
def Says01 (q : Prop) (r : Option Value) (s u : State) : Prop := ∃ v : Int32, r = some (.int v) ∧ u.heap = s.heap ∧ ((v = 1 ∧ q) ∨ (v = 0 ∧ ¬ q))
theorem Says01.mv {q : Prop} : ∀ r (U U' V V' : State), U'.heap = U.heap → V.vm.Alike V'.vm → V'.heap = V.heap → Says01 q r U V → Says01 q r U' V' :=
  fun r U U' V V' h1 _ h2 ⟨v, a, b, c⟩ => ⟨v, a, by rw [h1, h2]; exact b, c⟩
namespace LEq
def yN : MethodName := ⟨"java/lang/StringLatin1", "equals", "([B[B)Z"⟩
abbrev yB : ByteArray := jdk_43_method_13_code
theorem d0 : decode yB 0 = .ok (.aload_n 0, 1) := by decide +kernel
theorem d1 : decode yB 1 = .ok (.arraylength, 1) := by decide +kernel
theorem d2 : decode yB 2 = .ok (.aload_n 1, 1) := by decide +kernel
theorem d3 : decode yB 3 = .ok (.arraylength, 1) := by decide +kernel
theorem d4 : decode yB 4 = .ok (.if_icmp (.ne) 30, 3) := by decide +kernel
theorem d7 : decode yB 7 = .ok (.iconst 0, 1) := by decide +kernel
theorem d8 : decode yB 8 = .ok (.istore_n 2, 1) := by decide +kernel
theorem d9 : decode yB 9 = .ok (.iload_n 2, 1) := by decide +kernel
theorem d10 : decode yB 10 = .ok (.aload_n 0, 1) := by decide +kernel
theorem d11 : decode yB 11 = .ok (.arraylength, 1) := by decide +kernel
theorem d12 : decode yB 12 = .ok (.if_icmp (.ge) 20, 3) := by decide +kernel
theorem d15 : decode yB 15 = .ok (.aload_n 0, 1) := by decide +kernel
theorem d16 : decode yB 16 = .ok (.iload_n 2, 1) := by decide +kernel
theorem d17 : decode yB 17 = .ok (.baload, 1) := by decide +kernel
theorem d18 : decode yB 18 = .ok (.aload_n 1, 1) := by decide +kernel
theorem d19 : decode yB 19 = .ok (.iload_n 2, 1) := by decide +kernel
theorem d20 : decode yB 20 = .ok (.baload, 1) := by decide +kernel
theorem d21 : decode yB 21 = .ok (.if_icmp (.eq) 5, 3) := by decide +kernel
theorem d24 : decode yB 24 = .ok (.iconst 0, 1) := by decide +kernel
theorem d25 : decode yB 25 = .ok (.ireturn, 1) := by decide +kernel
theorem d26 : decode yB 26 = .ok (.iinc 2 1, 3) := by decide +kernel
theorem d29 : decode yB 29 = .ok (.goto (-20), 3) := by decide +kernel
theorem d32 : decode yB 32 = .ok (.iconst 1, 1) := by decide +kernel
theorem d33 : decode yB 33 = .ok (.ireturn, 1) := by decide +kernel
theorem d34 : decode yB 34 = .ok (.iconst 0, 1) := by decide +kernel
theorem d35 : decode yB 35 = .ok (.ireturn, 1) := by decide +kernel
def site : List Cond := []
def tab : Cond := tabOf yN yB 3 (some .boolean) site
def P (a : Addr) (A : Cell) (b : Addr) (B : Cell) (args : Array Value) (s : State) : Prop := args = #[.ref a, .ref b] ∧ XT.Arr .byte a A s ∧ Typed .byte A ∧ XT.Arr .byte b B s ∧ Typed .byte B
/-- whether two byte[] are equal, place for place -/
theorem law (l : Launch) (a : Addr) (A : Cell) (b : Addr) (B : Cell) : Law l yN 2 2 0 0 yB 3 (some .boolean) site (P a A b B) (Says01 (EqC A B)) [] 0 0 := by
  refine Law.of_walk (plainFor_of_name (by decide +kernel)) (by decide +kernel) (by decide +kernel) (by decide) (fun _ _ h => by rw [h.1]; rfl) (fun _ U U' hal hh h => ⟨h.1, h.2.1.mv hal hh, h.2.2.1, h.2.2.2.1.mv hal hh, h.2.2.2.2⟩) (fun r U U' V V' h1 hal h2 h => Says01.mv r U U' V V' h1 hal h2 h) ?_
  intro p e s m args below meth c s₁ X0 hexec hbytes hml hret hlk hnm hown hh0 W hP
  obtain ⟨rfl, hA, tA, hB, tB⟩ := hP
  have a31 := hA.2.2.2
  have b31 := hB.2.2.2
  have hA0 := hA.mv X0.warmed.alike hh0
  have hB0 := hB.mv X0.warmed.alike hh0
  have c1 : Steps p.tables e below (s₁.setTop (entryFrame m #[.ref a, .ref b] 3)) (s₁.setTop (mkF m 0 #[.val (.ref a), .val (.ref b), .unset] [])) := entry rfl
  have c2 : Steps p.tables e below (s₁.setTop (entryFrame m #[.ref a, .ref b] 3)) (s₁.setTop (mkF m 4 #[.val (.ref a), .val (.ref b), .unset] [.int (Int32.ofNat B.slots.size), .int (Int32.ofNat A.slots.size)])) := c1.trans (by
    refine XS.aloadN X0.here hexec rfl (hb hbytes d0) rfl rfl ?_
    refine X0.alen hexec hA0 rfl rfl (hb hbytes d1) ?_
    refine XS.aloadN X0.here hexec rfl (hb hbytes d2) rfl rfl ?_
    refine X0.alen hexec hB0 rfl rfl (hb hbytes d3) ?_
    exact Steps.refl _)
  by_cases hs : A.slots.size = B.slots.size
  · have c3 : Steps p.tables e below (s₁.setTop (entryFrame m #[.ref a, .ref b] 3)) (s₁.setTop (mkF m 9 #[.val (.ref a), .val (.ref b), .val (.int 0)] [])) := c2.trans (by
      refine XS.icmpNo X0.here hexec rfl (hb hbytes d4) rfl (ii_ne_f (by rw [hs])) ?_
      refine iconstV X0.here hexec rfl 0 (hb hbytes d7) (by decide) ?_
      refine XS.istoreN X0.here hexec rfl (hb hbytes d8) rfl rfl ?_
      exact Steps.refl _)
    have loop : ∀ (r i : Nat), i + r = A.slots.size → (∀ j, j < i → yv A j = yv B j) → Steps p.tables e below (s₁.setTop (entryFrame m #[.ref a, .ref b] 3)) (s₁.setTop (mkF m 9 #[.val (.ref a), .val (.ref b), .val (.int (Int32.ofNat i))] [])) → ∃ (pc : Nat) (Ls : Array Slot) (v : Int32), (pc = 25 ∨ pc = 33) ∧ ((v = 1 ∧ EqC A B) ∨ (v = 0 ∧ ¬ EqC A B)) ∧ Steps p.tables e below (s₁.setTop (entryFrame m #[.ref a, .ref b] 3)) (s₁.setTop (mkF m pc Ls [.int v])) := by
      intro r
      induction r with
      | zero =>
        intro i hi he cl
        exact ⟨33, _, 1, Or.inr rfl, Or.inl ⟨rfl, hs, fun j hj => he j (by omega)⟩, cl.trans (by
          refine XS.iloadN X0.here hexec rfl (hb hbytes d9) rfl ?_
          refine XS.aloadN X0.here hexec rfl (hb hbytes d10) rfl rfl ?_
          refine X0.alen hexec hA0 rfl rfl (hb hbytes d11) ?_
          refine XS.icmpYes X0.here hexec rfl (pc0 := 12) rfl (hb hbytes d12) rfl (ii_ge_t (nlt32 (by omega) (by omega))) (by decide) rfl ?_
          refine iconstV X0.here hexec rfl 1 (hb hbytes d32) (by decide) ?_
          exact Steps.refl _)⟩
      | succ r ih =>
        intro i hi he cl
        have c4 : Steps p.tables e below (s₁.setTop (entryFrame m #[.ref a, .ref b] 3)) (s₁.setTop (mkF m 21 #[.val (.ref a), .val (.ref b), .val (.int (Int32.ofNat i))] [.int (yv B i), .int (yv A i)])) := cl.trans (by
          refine XS.iloadN X0.here hexec rfl (hb hbytes d9) rfl ?_
          refine XS.aloadN X0.here hexec rfl (hb hbytes d10) rfl rfl ?_
          refine X0.alen hexec hA0 rfl rfl (hb hbytes d11) ?_
          refine XS.icmpNo X0.here hexec rfl (hb hbytes d12) rfl (ii_ge_f (lt32 (by omega) (by omega))) ?_
          refine XS.aloadN X0.here hexec rfl (hb hbytes d15) rfl rfl ?_
          refine XS.iloadN X0.here hexec rfl (hb hbytes d16) rfl ?_
          refine X0.aget hexec hA0 rfl (yv_get hA tA (i := i) (by omega)) rfl rfl (hb hbytes d17) ?_
          refine XS.aloadN X0.here hexec rfl (hb hbytes d18) rfl rfl ?_
          refine XS.iloadN X0.here hexec rfl (hb hbytes d19) rfl ?_
          refine X0.aget hexec hB0 rfl (yv_get hB tB (i := i) (by omega)) rfl rfl (hb hbytes d20) ?_
          exact Steps.refl _)
        by_cases hv : yv A i = yv B i
        · have c5 : Steps p.tables e below (s₁.setTop (entryFrame m #[.ref a, .ref b] 3)) (s₁.setTop (mkF m 9 #[.val (.ref a), .val (.ref b), .val (.int (Int32.ofNat i + 1))] [])) := c4.trans (by
            refine XS.icmpYes X0.here hexec rfl (pc0 := 21) rfl (hb hbytes d21) rfl (ii_eq_t hv) (by decide) rfl ?_
            refine iincV X0.here hexec rfl 1 (hb hbytes d26) (by decide) rfl rfl ?_
            refine XS.goto X0.here hexec rfl (pc0 := 29) rfl (hb hbytes d29) (by decide) rfl ?_
            exact Steps.refl _)
          rw [succ32] at c5
          exact ih (i + 1) (by omega) (fun j hj => by
            by_cases e : j = i
            · rw [e]; exact hv
            · exact he j (by omega)) c5
        · exact ⟨25, _, 0, Or.inl rfl, Or.inr ⟨rfl, fun q => hv (q.2 i (by omega))⟩, c4.trans (by
            refine XS.icmpNo X0.here hexec rfl (hb hbytes d21) rfl (ii_eq_f hv) ?_
            refine iconstV X0.here hexec rfl 0 (hb hbytes d24) (by decide) ?_
            exact Steps.refl _)⟩
    obtain ⟨pc, Ls, v, hpc, hv, cz⟩ := loop A.slots.size 0 (by omega) (fun j hj => absurd hj (Nat.not_lt_zero j)) c3
    have nv : narrow .boolean (.int v) = .int v := by rcases hv with ⟨rfl, -⟩ | ⟨rfl, -⟩ <;> rfl
    rcases hpc with rfl | rfl
    · exact ⟨s₁, some (.int v), _, _, _, X0, rfl, rfl, rfl, (fun h => by cases h), ⟨v, rfl, hh0, hv⟩, fun fs hl => cz.trans (X0.ireturnOut hexec hret nv (Or.inr (Or.inl rfl)) (hb hbytes d25) hl)⟩
    · exact ⟨s₁, some (.int v), _, _, _, X0, rfl, rfl, rfl, (fun h => by cases h), ⟨v, rfl, hh0, hv⟩, fun fs hl => cz.trans (X0.ireturnOut hexec hret nv (Or.inr (Or.inl rfl)) (hb hbytes d33) hl)⟩
  · have c3 : Steps p.tables e below (s₁.setTop (entryFrame m #[.ref a, .ref b] 3)) (s₁.setTop (mkF m 35 #[.val (.ref a), .val (.ref b), .unset] [.int 0])) := c2.trans (by
      refine XS.icmpYes X0.here hexec rfl (pc0 := 4) rfl (hb hbytes d4) rfl (ii_ne_t (ne32 a31 b31 hs)) (by decide) rfl ?_
      refine iconstV X0.here hexec rfl 0 (hb hbytes d34) (by decide) ?_
      exact Steps.refl _)
    exact ⟨s₁, some (.int 0), _, _, _, X0, rfl, rfl, rfl, (fun h => by cases h), ⟨0, rfl, hh0, Or.inr ⟨rfl, fun q => hs q.1⟩⟩, fun fs hl => c3.trans (X0.ireturnOut hexec hret rfl (Or.inr (Or.inl rfl)) (hb hbytes d35) hl)⟩
end LEq
theorem Cod.ty {cd : Int32} {n : Nat} {f : Nat → Int32} {V : Cell} (h : Cod cd n f V) : Typed .byte V := fun i v hv => by
  have hi : i < V.slots.size := (Array.getElem?_eq_some_iff.mp hv).1
  rcases h with ⟨-, k1, k2⟩ | ⟨-, k1, k2, -⟩
  · rw [(k2 i (by omega)).1] at hv; cases hv; exact fits_lo8 _
  · rcases Nat.mod_two_eq_zero_or_one i with e | e
    · obtain ⟨j, rfl⟩ : ∃ j, i = 2 * j := ⟨i / 2, by omega⟩
      rw [(k2 j (by omega)).1] at hv; cases hv; exact fits_lo8 _
    · obtain ⟨j, rfl⟩ : ∃ j, i = 2 * j + 1 := ⟨i / 2, by omega⟩
      rw [(k2 j (by omega)).2] at hv; cases hv; exact fits_lo8 _
/-- the same text -/
def SameT (n : Nat) (f : Nat → Int32) (k : Nat) (g : Nat → Int32) : Prop := n = k ∧ ∀ j, j < n → f j = g j
theorem lo8_inj {x y : Int32} (h0 : ¬ x < 0) (h1 : ¬ 255 < x) (k0 : ¬ y < 0) (k1 : ¬ 255 < y) (h : lo8 x = lo8 y) : x = y := by
  rw [← lo8_mask h0 h1, ← lo8_mask k0 k1, h]
/-- arrays coded by one coder are equal just where the texts are -/
theorem Cod.eqv {cd : Int32} {n k : Nat} {f g : Nat → Int32} {V V' : Cell} (h : Cod cd n f V) (h' : Cod cd k g V') (hf : ∀ j, j < n → ¬ f j < 0 ∧ ¬ 65535 < f j) (hg : ∀ j, j < k → ¬ g j < 0 ∧ ¬ 65535 < g j) : EqC V V' ↔ SameT n f k g := by
  have yvv : ∀ {W : Cell} {i : Nat} {x : Int32}, W.slots[i]? = some (.int x) → yv W i = x := fun q => by unfold yv; rw [q]
  rcases h with ⟨rfl, k1, k2⟩ | ⟨rfl, k1, k2, -⟩
  · rcases h' with ⟨-, m1, m2⟩ | ⟨e, -⟩
    · constructor
      · rintro ⟨e1, e2⟩
        refine ⟨by omega, fun j hj => ?_⟩
        have q := e2 j (by omega)
        rw [yvv (k2 j hj).1, yvv (m2 j (by omega)).1] at q
        exact lo8_inj (hf j hj).1 (k2 j hj).2 (hg j (by omega)).1 (m2 j (by omega)).2 q
      · rintro ⟨rfl, e2⟩
        refine ⟨by omega, fun j hj => ?_⟩
        rw [yvv (k2 j (by omega)).1, yvv (m2 j (by omega)).1, e2 j (by omega)]
    · exact absurd e (by decide)
  · rcases h' with ⟨e, -⟩ | ⟨-, m1, m2, -⟩
    · exact absurd e (by decide)
    · constructor
      · rintro ⟨e1, e2⟩
        refine ⟨by omega, fun j hj => ?_⟩
        have q1 := e2 (2 * j) (by omega)
        have q2 := e2 (2 * j + 1) (by omega)
        rw [yvv (k2 j hj).1, yvv (m2 j (by omega)).1] at q1
        rw [yvv (k2 j hj).2, yvv (m2 j (by omega)).2] at q2
        rw [← pair_says (hf j hj).1 (hf j hj).2, ← pair_says (hg j (by omega)).1 (hg j (by omega)).2, q1, q2]
      · rintro ⟨rfl, e2⟩
        refine ⟨by omega, fun i hi => ?_⟩
        rcases Nat.mod_two_eq_zero_or_one i with e | e
        · obtain ⟨j, rfl⟩ : ∃ j, i = 2 * j := ⟨i / 2, by omega⟩
          rw [yvv (k2 j (by omega)).1, yvv (m2 j (by omega)).1, e2 j (by omega)]
        · obtain ⟨j, rfl⟩ : ∃ j, i = 2 * j + 1 := ⟨i / 2, by omega⟩
          rw [yvv (k2 j (by omega)).2, yvv (m2 j (by omega)).2, e2 j (by omega)]
/-- two codings differ: so do the texts -/
theorem Cod.dif {cd cd' : Int32} {n k : Nat} {f g : Nat → Int32} {V V' : Cell} (h : Cod cd n f V) (h' : Cod cd' k g V') (hne : ¬ cd = cd') : ¬ SameT n f k g := by
  rintro ⟨rfl, e⟩
  rcases h with ⟨rfl, -, k2⟩ | ⟨rfl, -, -, j, hj, hw⟩
  · rcases h' with ⟨rfl, -⟩ | ⟨-, -, -, j, hj, hw⟩
    · exact hne rfl
    · exact (k2 j hj).2 (by rw [e j hj]; exact hw)
  · rcases h' with ⟨-, -, m2⟩ | ⟨rfl, -⟩
    · exact (m2 j hj).2 (by rw [← e j hj]; exact hw)
    · exact hne rfl
/-- an object of exactly C is an instance of C -/
theorem cinst {p : Program} {l : Launch} {e : Env} {R : Room} {s : State} {m : MethodId} {args : Array Value} {below : List Frame} {meth : Method} {c : Code} {T : State} {locs : List Loc} {cells slots : Nat} (X : Stand p l e R s m args below meth c T locs cells slots) (hexec : p.tables.exec = Jvm.exec) {own C : String} {index : Nat} (hown : s.vm.findClass own = some m.cls) (hlink : (Cond.classLink own index C).before args s = true) {a : Addr} (hE : Exact C a T)
    {g : JFrame} (hg : g.method = m) {rest : List Value} (hstack : g.stack = .ref a :: rest) (hdg : decode c.code g.pc = .ok (.instanceof index, 3)) :
    ∃ T', Stand p l e R s m args below meth c T' locs cells slots ∧ T'.heap = T.heap ∧ ∀ target, Steps p.tables e below (T'.setTop { g with pc := g.pc + 3, stack := .int 1 :: rest }) target → Steps p.tables e below (T.setTop g) target := by
  obtain ⟨cB, h1, D, h2, h3, h4⟩ := hE
  have h1' : s.vm.findClass C = some cB := by rw [← X.warmed.alike.findClass]; exact h1
  obtain ⟨vm', X', st⟩ := X.instanceofYes hexec hown hlink h2 h4 h1' (by rw [h3]; exact Jvm.Free.SB.assignable_self _ _) hg hstack hdg
  exact ⟨_, X', rfl, st⟩
theorem cself {p : Program} {l : Launch} {e : Env} {R : Room} {s : State} {m : MethodId} {args : Array Value} {below : List Frame} {meth : Method} {c : Code} {T : State} {locs : List Loc} {cells slots : Nat} (X : Stand p l e R s m args below meth c T locs cells slots) (hexec : p.tables.exec = Jvm.exec) {own C : String} {index : Nat} (hown : s.vm.findClass own = some m.cls) (hlink : (Cond.classLink own index C).before args s = true) {a : Addr} (hE : Exact C a T)
    {g : JFrame} (hg : g.method = m) {rest : List Value} (hstack : g.stack = .ref a :: rest) (hdg : decode c.code g.pc = .ok (.checkcast index, 3)) :
    ∃ T', Stand p l e R s m args below meth c T' locs cells slots ∧ T'.heap = T.heap ∧ ∀ target, Steps p.tables e below (T'.setTop { g with pc := g.pc + 3, stack := .ref a :: rest }) target → Steps p.tables e below (T.setTop g) target := by
  obtain ⟨cB, h1, D, h2, h3, h4⟩ := hE
  have h1' : s.vm.findClass C = some cB := by rw [← X.warmed.alike.findClass]; exact h1
  obtain ⟨vm', X', st⟩ := X.checkcastYes hexec hown hlink h2 h4 h1' (by rw [h3]; exact Jvm.Free.SB.assignable_self _ _) hg hstack hdg
  exact ⟨_, X', rfl, fun t h => st t (by rw [← hstack] at h; exact h)⟩
namespace SEq
def yN : MethodName := ⟨"java/lang/String", "equals", "(Ljava/lang/Object;)Z"⟩
abbrev yB : ByteArray := jdk_42_method_66_code
theorem d0 : decode yB 0 = .ok (.aload_n 0, 1) := by decide +kernel
theorem d1 : decode yB 1 = .ok (.aload_n 1, 1) := by decide +kernel
theorem d2 : decode yB 2 = .ok (.if_acmp (.ne) 5, 3) := by decide +kernel
theorem d5 : decode yB 5 = .ok (.iconst 1, 1) := by decide +kernel
theorem d6 : decode yB 6 = .ok (.ireturn, 1) := by decide +kernel
theorem d7 : decode yB 7 = .ok (.aload_n 1, 1) := by decide +kernel
theorem d8 : decode yB 8 = .ok (.instanceof 10, 3) := by decide +kernel
theorem d11 : decode yB 11 = .ok (.ifCond (.eq) 43, 3) := by decide +kernel
theorem d14 : decode yB 14 = .ok (.aload_n 1, 1) := by decide +kernel
theorem d15 : decode yB 15 = .ok (.checkcast 10, 3) := by decide +kernel
theorem d18 : decode yB 18 = .ok (.astore_n 2, 1) := by decide +kernel
theorem d19 : decode yB 19 = .ok (.getstatic 38, 3) := by decide +kernel
theorem d22 : decode yB 22 = .ok (.ifCond (.eq) 14, 3) := by decide +kernel
theorem d25 : decode yB 25 = .ok (.aload_n 0, 1) := by decide +kernel
theorem d26 : decode yB 26 = .ok (.getfield 15, 3) := by decide +kernel
theorem d29 : decode yB 29 = .ok (.aload_n 2, 1) := by decide +kernel
theorem d30 : decode yB 30 = .ok (.getfield 15, 3) := by decide +kernel
theorem d33 : decode yB 33 = .ok (.if_icmp (.ne) 21, 3) := by decide +kernel
theorem d36 : decode yB 36 = .ok (.aload_n 0, 1) := by decide +kernel
theorem d37 : decode yB 37 = .ok (.getfield 9, 3) := by decide +kernel
theorem d40 : decode yB 40 = .ok (.aload_n 2, 1) := by decide +kernel
theorem d41 : decode yB 41 = .ok (.getfield 9, 3) := by decide +kernel
theorem d44 : decode yB 44 = .ok (.invokestatic 541, 3) := by decide +kernel
theorem d47 : decode yB 47 = .ok (.ifCond (.eq) 7, 3) := by decide +kernel
theorem d50 : decode yB 50 = .ok (.iconst 1, 1) := by decide +kernel
theorem d51 : decode yB 51 = .ok (.goto 4, 3) := by decide +kernel
theorem d54 : decode yB 54 = .ok (.iconst 0, 1) := by decide +kernel
theorem d55 : decode yB 55 = .ok (.ireturn, 1) := by decide +kernel
def site : List Cond := [.classLink "java/lang/String" 10 "java/lang/String", .fieldLink "java/lang/String" 38 "java/lang/String" "COMPACT_STRINGS" "Z", .fieldLink "java/lang/String" 15 "java/lang/String" "coder" "B", .fieldLink "java/lang/String" 9 "java/lang/String" "value" "[B", LEq.tab] ++ staticW "java/lang/String" 541 LEq.yN
def tab : Cond := tabOf yN yB 3 (some .boolean) site
def P (x t : Addr) (V : Cell) (cd : Int32) (n : Nat) (f : Nat → Int32) (y t' : Addr) (V' : Cell) (cd' : Int32) (k : Nat) (g : Nat → Int32) (z : Int32) (args : Array Value) (s : State) : Prop := args = #[.ref x, .ref y] ∧ Txt x t V cd n f s ∧ Txt y t' V' cd' k g s ∧ StaticIs s "java/lang/String" "COMPACT_STRINGS" "Z" (.int z) ∧ ¬ z = 0
/-- equals(Object) of two Strings: whether the texts are the same -/
theorem law (l : Launch) (x t : Addr) (V : Cell) (cd : Int32) (n : Nat) (f : Nat → Int32) (y t' : Addr) (V' : Cell) (cd' : Int32) (k : Nat) (g : Nat → Int32) (z : Int32) : Law l yN 2 1 1 14 yB 3 (some .boolean) site (P x t V cd n f y t' V' cd' k g z) (Says01 (SameT n f k g)) [] 0 0 := by
  refine Law.of_walk (plainFor_of_name (by decide +kernel)) (by decide +kernel) (by decide +kernel) (by decide) (fun _ _ h => by rw [h.1]; rfl) (fun _ U U' hal hh h => ⟨h.1, h.2.1.mv hal hh, h.2.2.1.mv hal hh, h.2.2.2.1.there hal hh, h.2.2.2.2⟩) (fun r U U' V V' h1 hal h2 h => Says01.mv r U U' V V' h1 hal h2 h) ?_
  intro p e s m args below meth c s₁ X0 hexec hbytes hml hret hlk hnm hown hh0 W hP
  obtain ⟨rfl, hx, hy, s1, hz⟩ := hP
  have c1 : Steps p.tables e below (s₁.setTop (entryFrame m #[.ref x, .ref y] 3)) (s₁.setTop (mkF m 2 #[.val (.ref x), .val (.ref y), .unset] [.ref y, .ref x])) := Steps.trans (entry rfl) (by
    show Steps p.tables e below (s₁.setTop (mkF m 0 #[.val (.ref x), .val (.ref y), .unset] [])) _
    refine XS.aloadN X0.here hexec rfl (hb hbytes d0) rfl rfl ?_
    refine XS.aloadN X0.here hexec rfl (hb hbytes d1) rfl rfl ?_
    exact Steps.refl _)
  by_cases hxy : x = y
  · have c2 : Steps p.tables e below (s₁.setTop (entryFrame m #[.ref x, .ref y] 3)) (s₁.setTop (mkF m 6 #[.val (.ref x), .val (.ref y), .unset] [.int 1])) := c1.trans (by
      refine acmpNo X0.here hexec rfl (hb hbytes d2) rfl rfl rfl (by simp [acmp, hxy]) ?_
      refine iconstV X0.here hexec rfl 1 (hb hbytes d5) (by decide) ?_
      exact Steps.refl _)
    subst hxy
    have ec : cd = cd' := by
      obtain ⟨D, fd, a1, a2, a3⟩ := hx.2.2.1
      obtain ⟨D', fd', b1, b2, b3⟩ := hy.2.2.1
      cases a1.symm.trans b1
      obtain ⟨q1, q2, q3, q4⟩ := a2.1
      obtain ⟨r1, r2, r3, r4⟩ := b2.1
      cases q4.symm.trans r4
      cases a3.symm.trans b3; rfl
    have et : t = t' := by
      obtain ⟨D, fd, a1, a2, a3⟩ := hx.2.1
      obtain ⟨D', fd', b1, b2, b3⟩ := hy.2.1
      cases a1.symm.trans b1
      obtain ⟨q1, q2, q3, q4⟩ := a2.1
      obtain ⟨r1, r2, r3, r4⟩ := b2.1
      cases q4.symm.trans r4
      cases a3.symm.trans b3; rfl
    subst ec et
    have ev : V = V' := by cases hx.2.2.2.1.1.symm.trans hy.2.2.2.1.1; rfl
    subst ev
    have hs : SameT n f k g := (Cod.eqv hx.2.2.2.2.1 hy.2.2.2.2.1 hx.2.2.2.2.2 hy.2.2.2.2.2).mp ⟨rfl, fun _ _ => rfl⟩
    exact ⟨s₁, some (.int 1), _, _, _, X0, rfl, rfl, rfl, (fun h => by cases h), ⟨1, rfl, hh0, Or.inl ⟨rfl, hs⟩⟩, fun fs hl => c2.trans (X0.ireturnOut hexec hret rfl (Or.inr (Or.inl rfl)) (hb hbytes d6) hl)⟩
  · have c2 : Steps p.tables e below (s₁.setTop (entryFrame m #[.ref x, .ref y] 3)) (s₁.setTop (mkF m 8 #[.val (.ref x), .val (.ref y), .unset] [.ref y])) := c1.trans (by
      refine acmpYes X0.here hexec rfl (pc0 := 2) rfl (hb hbytes d2) rfl rfl rfl (by simp [acmp, hxy]) (by decide) rfl ?_
      refine XS.aloadN X0.here hexec rfl (hb hbytes d7) rfl rfl ?_
      exact Steps.refl _)
    obtain ⟨T3, X3, q3, st3⟩ := cinst X0 hexec hown (wk W (.classLink "java/lang/String" 10 "java/lang/String")) (hy.mv X0.warmed.alike hh0).1 (g := (mkF m 8 #[.val (.ref x), .val (.ref y), .unset] [.ref y])) rfl (rest := []) rfl (hb hbytes d8)
    have hh3 := q3.trans hh0
    have c4 : Steps p.tables e below (s₁.setTop (entryFrame m #[.ref x, .ref y] 3)) (T3.setTop (mkF m 15 #[.val (.ref x), .val (.ref y), .unset] [.ref y])) := (c2.trans (st3 _ (Steps.refl _))).trans (by
      refine XS.ifNo X3.here hexec rfl (hb hbytes d11) rfl (i0_eq_f (by decide)) ?_
      refine XS.aloadN X3.here hexec rfl (hb hbytes d14) rfl rfl ?_
      exact Steps.refl _)
    obtain ⟨T5, X5, q5, st5⟩ := cself X3 hexec hown (wk W (.classLink "java/lang/String" 10 "java/lang/String")) (hy.mv X3.warmed.alike hh3).1 (g := (mkF m 15 #[.val (.ref x), .val (.ref y), .unset] [.ref y])) rfl (rest := []) rfl (hb hbytes d15)
    have hh5 := q5.trans hh3
    have c6 : Steps p.tables e below (s₁.setTop (entryFrame m #[.ref x, .ref y] 3)) (T5.setTop (mkF m 19 #[.val (.ref x), .val (.ref y), .val (.ref y)] [])) := (c4.trans (st5 _ (Steps.refl _))).trans (by
      refine XS.astoreN X5.here hexec rfl (hb hbytes d18) rfl rfl rfl ?_
      exact Steps.refl _)
    obtain ⟨T7, X7, q7, st7⟩ := X5.sget hexec hown (wk W (.fieldLink "java/lang/String" 38 "java/lang/String" "COMPACT_STRINGS" "Z")) s1 (fun _ _ h => by rw [hh5]; exact h) (g := (mkF m 19 #[.val (.ref x), .val (.ref y), .val (.ref y)] [])) rfl (hb hbytes d19)
    have hh7 := q7.trans hh5
    have c8 : Steps p.tables e below (s₁.setTop (entryFrame m #[.ref x, .ref y] 3)) (T7.setTop (mkF m 26 #[.val (.ref x), .val (.ref y), .val (.ref y)] [.ref x])) := (c6.trans (st7 _ (Steps.refl _))).trans (by
      refine XS.ifNo X7.here hexec rfl (hb hbytes d22) rfl (i0_eq_f hz) ?_
      refine XS.aloadN X7.here hexec rfl (hb hbytes d25) rfl rfl ?_
      exact Steps.refl _)
    obtain ⟨T9, X9, q9, st9⟩ := X7.hget hexec hown (wk W (.fieldLink "java/lang/String" 15 "java/lang/String" "coder" "B")) (hx.mv X7.warmed.alike hh7).2.2.1 (g := (mkF m 26 #[.val (.ref x), .val (.ref y), .val (.ref y)] [.ref x])) rfl (rest := []) rfl (hb hbytes d26)
    have hh9 := q9.trans hh7
    have c10 : Steps p.tables e below (s₁.setTop (entryFrame m #[.ref x, .ref y] 3)) (T9.setTop (mkF m 30 #[.val (.ref x), .val (.ref y), .val (.ref y)] [.ref y, .int cd])) := (c8.trans (st9 _ (Steps.refl _))).trans (by
      refine XS.aloadN X9.here hexec rfl (hb hbytes d29) rfl rfl ?_
      exact Steps.refl _)
    obtain ⟨T11, X11, q11, st11⟩ := X9.hget hexec hown (wk W (.fieldLink "java/lang/String" 15 "java/lang/String" "coder" "B")) (hy.mv X9.warmed.alike hh9).2.2.1 (g := (mkF m 30 #[.val (.ref x), .val (.ref y), .val (.ref y)] [.ref y, .int cd])) rfl (rest := [.int cd]) rfl (hb hbytes d30)
    have hh11 := q11.trans hh9
    have c12 : Steps p.tables e below (s₁.setTop (entryFrame m #[.ref x, .ref y] 3)) (T11.setTop (mkF m 33 #[.val (.ref x), .val (.ref y), .val (.ref y)] [.int cd', .int cd])) := c10.trans (st11 _ (Steps.refl _))
    by_cases hcd : cd = cd'
    · subst hcd
      have c13 : Steps p.tables e below (s₁.setTop (entryFrame m #[.ref x, .ref y] 3)) (T11.setTop (mkF m 37 #[.val (.ref x), .val (.ref y), .val (.ref y)] [.ref x])) := c12.trans (by
        refine XS.icmpNo X11.here hexec rfl (hb hbytes d33) rfl (ii_ne_f rfl) ?_
        refine XS.aloadN X11.here hexec rfl (hb hbytes d36) rfl rfl ?_
        exact Steps.refl _)
      obtain ⟨T14, X14, q14, st14⟩ := X11.hget hexec hown (wk W (.fieldLink "java/lang/String" 9 "java/lang/String" "value" "[B")) (hx.mv X11.warmed.alike hh11).2.1 (g := (mkF m 37 #[.val (.ref x), .val (.ref y), .val (.ref y)] [.ref x])) rfl (rest := []) rfl (hb hbytes d37)
      have hh14 := q14.trans hh11
      have c15 : Steps p.tables e below (s₁.setTop (entryFrame m #[.ref x, .ref y] 3)) (T14.setTop (mkF m 41 #[.val (.ref x), .val (.ref y), .val (.ref y)] [.ref y, .ref t])) := (c13.trans (st14 _ (Steps.refl _))).trans (by
        refine XS.aloadN X14.here hexec rfl (hb hbytes d40) rfl rfl ?_
        exact Steps.refl _)
      obtain ⟨T16, X16, q16, st16⟩ := X14.hget hexec hown (wk W (.fieldLink "java/lang/String" 9 "java/lang/String" "value" "[B")) (hy.mv X14.warmed.alike hh14).2.1 (g := (mkF m 41 #[.val (.ref x), .val (.ref y), .val (.ref y)] [.ref y, .ref t])) rfl (rest := [.ref t]) rfl (hb hbytes d41)
      have hh16 := q16.trans hh14
      have c17 : Steps p.tables e below (s₁.setTop (entryFrame m #[.ref x, .ref y] 3)) (T16.setTop (mkF m 44 #[.val (.ref x), .val (.ref y), .val (.ref y)] [.ref t', .ref t])) := c15.trans (st16 _ (Steps.refl _))
      obtain ⟨v18, T18, X18, E18, g18⟩ := X16.callS hexec (LEq.law l t V t' V') hown (wks W (staticW "java/lang/String" 541 LEq.yN)) (wk W LEq.tab) (W := 0) (Nat.le_of_ble_eq_true rfl) (Nat.le_of_ble_eq_true rfl) (Nat.le_refl _) (Nat.le_refl _) (g := (mkF m 44 #[.val (.ref x), .val (.ref y), .val (.ref y)] [.ref t', .ref t])) rfl (by rw [hml]; rfl) c17 (argsL := [.ref t, .ref t']) (rest := []) rfl rfl (by show 2 * 0 + 0 ≤ _; decide) (hb hbytes d44) (⟨rfl, hx.2.2.2.1.mv X16.warmed.alike hh16, hx.2.2.2.2.1.ty, hy.2.2.2.1.mv X16.warmed.alike hh16, hy.2.2.2.2.1.ty⟩)
      obtain ⟨v, rfl, q18, hv⟩ := E18
      have iff := Cod.eqv hx.2.2.2.2.1 hy.2.2.2.2.1 hx.2.2.2.2.2 hy.2.2.2.2.2
      rcases hv with ⟨rfl, he⟩ | ⟨rfl, he⟩
      · have c19 : Steps p.tables e below (s₁.setTop (entryFrame m #[.ref x, .ref y] 3)) (T18.setTop (mkF m 55 #[.val (.ref x), .val (.ref y), .val (.ref y)] [.int 1])) := Steps.trans g18 (by
          refine XS.ifNo X18.here hexec rfl (hb hbytes d47) rfl (i0_eq_f (by decide)) ?_
          refine iconstV X18.here hexec rfl 1 (hb hbytes d50) (by decide) ?_
          refine XS.goto X18.here hexec rfl (pc0 := 51) rfl (hb hbytes d51) (by decide) rfl ?_
          exact Steps.refl _)
        exact ⟨T18, some (.int 1), _, _, _, X18, rfl, rfl, rfl, (fun h => by cases h), ⟨1, rfl, q18.trans hh16, Or.inl ⟨rfl, iff.mp he⟩⟩, fun fs hl => c19.trans (X18.ireturnOut hexec hret rfl (Or.inr (Or.inl rfl)) (hb hbytes d55) hl)⟩
      · have c19 : Steps p.tables e below (s₁.setTop (entryFrame m #[.ref x, .ref y] 3)) (T18.setTop (mkF m 55 #[.val (.ref x), .val (.ref y), .val (.ref y)] [.int 0])) := Steps.trans g18 (by
          refine XS.ifYes X18.here hexec rfl (pc0 := 47) rfl (hb hbytes d47) rfl (i0_eq_t rfl) (by decide) rfl ?_
          refine iconstV X18.here hexec rfl 0 (hb hbytes d54) (by decide) ?_
          exact Steps.refl _)
        exact ⟨T18, some (.int 0), _, _, _, X18, rfl, rfl, rfl, (fun h => by cases h), ⟨0, rfl, q18.trans hh16, Or.inr ⟨rfl, fun q => he (iff.mpr q)⟩⟩, fun fs hl => c19.trans (X18.ireturnOut hexec hret rfl (Or.inr (Or.inl rfl)) (hb hbytes d55) hl)⟩
    · have c13 : Steps p.tables e below (s₁.setTop (entryFrame m #[.ref x, .ref y] 3)) (T11.setTop (mkF m 55 #[.val (.ref x), .val (.ref y), .val (.ref y)] [.int 0])) := c12.trans (by
        refine XS.icmpYes X11.here hexec rfl (pc0 := 33) rfl (hb hbytes d33) rfl (ii_ne_t hcd) (by decide) rfl ?_
        refine iconstV X11.here hexec rfl 0 (hb hbytes d54) (by decide) ?_
        exact Steps.refl _)
      exact ⟨T11, some (.int 0), _, _, _, X11, rfl, rfl, rfl, (fun h => by cases h), ⟨0, rfl, hh11, Or.inr ⟨rfl, Cod.dif hx.2.2.2.2.1 hy.2.2.2.2.1 hcd⟩⟩, fun fs hl => c13.trans (X11.ireturnOut hexec hret rfl (Or.inr (Or.inl rfl)) (hb hbytes d55) hl)⟩
theorem pays {l : Launch} {R : Room} {p : Program} {e : Env} {below : List Frame} {s : State} {sargs : Array Value} {len W : Nat} (x t : Addr) (V : Cell) (cd : Int32) (n : Nat) (f : Nat → Int32) (y t' : Addr) (V' : Cell) (cd' : Int32) (k : Nat) (g : Nat → Int32) (z : Int32) (htab : tab.before sargs s = true) (hfr : 2 ≤ R.frames) (hlo : W + 28 ≤ R.locals) :
    Back l R p e below s sargs yN len W (fun A₁ a₁ => A₁.cells + 0 ≤ R.cells ∧ A₁.slots + 0 ≤ R.slots ∧ P x t V cd n f y t' V' cd' k g z a₁ A₁.U) (fun A₁ _ v₁ B₁ => Says01 (SameT n f k g) v₁ A₁.U B₁.U ∧ B₁.locs = A₁.locs ++ [] ∧ B₁.cells = A₁.cells + 0 ∧ B₁.slots = A₁.slots + 0) :=
  (law l x t V cd n f y t' V' cd' k g z).pays htab hfr (by omega)
end SEq
end StrChars
namespace StrChars.Road
open Jvm Sem ClassFile Op Lib Jvm.Stand Jvm.Free Jvm.Free.XT
open Jvm.Lib.Cold (StaticIs)
/-- the words of String.equals(Object) -/
abbrev wordsEq : List Jvm.Cond := [.code SEq.yN SEq.yB 3 (some .boolean), .initialized ST, .classLink ST 10 ST, .fieldLink ST 38 ST "COMPACT_STRINGS" "Z", .fieldLink ST 15 ST "coder" "B", .fieldLink ST 9 ST "value" "[B", .methodLink ST 541 LEq.yN, .static LEq.yN, .code LEq.yN LEq.yB 3 (some .boolean), .initialized "java/lang/StringLatin1"]
theorem tabEq_of {a : Array Value} {s : State} (h : ∀ w ∈ wordsEq, w.before a s = true) : SEq.tab.before a s = true := by
  have hl : LEq.tab.before a s = true := unparts (wk h (.code LEq.yN LEq.yB 3 (some .boolean))) (wks h (.initialized LEq.yN.cls :: LEq.site))
  have q := consq hl h
  exact unparts (wk q (.code SEq.yN SEq.yB 3 (some .boolean))) (wks q (.initialized SEq.yN.cls :: SEq.site))
theorem movedEq {Z s : State} {a0 args : Array Value} (hZ : Z.Warmed39 s.vm) (hw : ∀ d ∈ wordsEq, d.before a0 Z = true) : ∀ d ∈ wordsEq, d.before args s = true := fun d hd => by
  have t : ∀ d ∈ wordsEq, (d.onTables && d.keepsFace) = true := by decide +kernel
  exact RoadKit.mv hZ (hw d hd) (t d hd)
/-- the road's facts of a String, as the laws ask it -/
theorem txt_of {Z U : State} {a0 : Array Value} {kI : Nat} (wi : (Jvm.Cond.instantiable ST kI).before a0 Z = true) (al : Z.vm.Alike U.vm) {x t : Addr} {kb : ClassId} {cs : List Int32} {cd N2 : Int32} {vs : List Value} (E : RoadKit.Exa Z U.heap x ST) (V : RoadKit.Fld Z U.heap x ST "value" "[B" (.ref t)) (C : RoadKit.Fld Z U.heap x ST "coder" "B" (.int cd)) (K : RoadKit.Arv Z U.heap t kb .byte N2 vs (.int 0)) (hc : CodA cs cd N2 vs) (hb : ∀ c ∈ cs, ¬ c < 0 ∧ ¬ (65535 : Int32) < c) (l2 : cs.length ≤ 4000) :
    ∃ A, Txt x t A cd cs.length (fun j => cs.getD j 0) U := by
  obtain ⟨A, K1, K2, K3, K4, K5, K6⟩ := K
  have hcod := hc.cod (by omega) K3 K5
  obtain ⟨D, fV, fC, hB, F1, F2, g1, g2, -, -⟩ := strObj wi al E V C
  exact ⟨A, ⟨_, hB.2.2.1, D, hB.1, rfl, by cases q : D.vm <;> first | rfl | exact absurd q (hB.2.1.2 _)⟩, Has.of hB F1 g1, Has.of hB F2 g2, ⟨K1.1, State.isArrayOf_alike al K1.2.1, K1.2.2, by rcases hcod with ⟨-, q, -⟩ | ⟨-, q, -⟩ <;> omega⟩, hcod, fun j hj => by
    have e : cs.getD j 0 = cs[j] := by simp [List.getD_eq_getElem?_getD, hj]
    show ¬ cs.getD j 0 < 0 ∧ ¬ 65535 < cs.getD j 0
    rw [e]; exact hb _ (List.getElem_mem _)⟩
theorem same_list (cs ds : List Int32) : SameT cs.length (fun j => cs.getD j 0) ds.length (fun j => ds.getD j 0) ↔ cs = ds := by
  constructor
  · rintro ⟨e, q⟩
    refine List.ext_getElem e fun j h1 h2 => ?_
    have := q j h1
    simpa [List.getD_eq_getElem?_getD, h1, h2] using this
  · rintro rfl
    exact ⟨rfl, fun _ _ => rfl⟩
/-- **equals(Object) OF TWO SUCH STRINGS**: 1 just where the chars are the same -/
theorem eqW {p : Program} {l : Launch} {e : Env} {R : Room} {s : State} {args : Array Value} {below : List Frame} {len W : Nat} {Z : State} {a0 : Array Value} {h : Heap} (hZ : Z.Warmed39 s.vm) (hw : ∀ d ∈ wordsEq, d.before a0 Z = true) {kI : Nat} (wi : (Jvm.Cond.instantiable ST kI).before a0 Z = true)
    {x t : Addr} {kb : ClassId} {cs : List Int32} {cd N2 : Int32} {vs : List Value} (E : RoadKit.Exa Z h x ST) (V : RoadKit.Fld Z h x ST "value" "[B" (.ref t)) (C : RoadKit.Fld Z h x ST "coder" "B" (.int cd)) (K : RoadKit.Arv Z h t kb .byte N2 vs (.int 0)) (hc : CodA cs cd N2 vs) (hb : ∀ c ∈ cs, ¬ c < 0 ∧ ¬ (65535 : Int32) < c) (l2 : cs.length ≤ 4000)
    {y t' : Addr} {kb' : ClassId} {ds : List Int32} {cd' N2' : Int32} {vs' : List Value} (E' : RoadKit.Exa Z h y ST) (V' : RoadKit.Fld Z h y ST "value" "[B" (.ref t')) (C' : RoadKit.Fld Z h y ST "coder" "B" (.int cd')) (K' : RoadKit.Arv Z h t' kb' .byte N2' vs' (.int 0)) (hc' : CodA ds cd' N2' vs') (hb' : ∀ c ∈ ds, ¬ c < 0 ∧ ¬ (65535 : Int32) < c) (l2' : ds.length ≤ 4000)
    {z : Int32} (S : RoadKit.Sta Z h ST "COMPACT_STRINGS" "Z" (.int z)) (hz : ¬ z = 0) (hfr : 2 ≤ R.frames) (hlo : W + 28 ≤ R.locals) :
    Back l R p e below s args (⟨"java/lang/String", "equals", "(Ljava/lang/Object;)Z"⟩ : MethodName) len W (fun P a => a = #[.ref x, .ref y] ∧ P.U.heap = h ∧ P.cells + 0 ≤ R.cells ∧ P.slots + 0 ≤ R.slots)
      (fun P _ v B => ∃ L, (((v = some (.int 1) ∧ cs = ds) ∨ (v = some (.int 0) ∧ ¬ cs = ds)) ∧ L = [] ∧ B.U.heap = h) ∧ B.locs = P.locs ++ L ∧ B.cells = P.cells + 0 ∧ B.slots = P.slots + 0) := by
  intro m meth c P g ig mk a X hg hsize hdg hW hn hp'
  obtain ⟨rfl, rfl, r1, r2⟩ := hp'
  have al : Z.vm.Alike P.U.vm := hZ.alike.trans X.warmed.alike
  obtain ⟨A, hx⟩ := txt_of wi al E V C K hc hb l2
  obtain ⟨A', hy⟩ := txt_of wi al E' V' C' K' hc' hb' l2'
  obtain ⟨v, B, X', ⟨⟨w, hv, hh, hq⟩, hl, hk, hs⟩, st⟩ := SEq.pays x t A cd cs.length (fun j => cs.getD j 0) y t' A' cd' ds.length (fun j => ds.getD j 0) z (tabEq_of (movedEq hZ hw)) hfr hlo m meth c P g ig mk _ X hg hsize hdg hW hn ⟨r1, r2, rfl, hx, hy, sta_is al S, hz⟩
  refine ⟨v, B, X', ⟨[], ⟨?_, rfl, hh⟩, hl, hk, hs⟩, st⟩
  rcases hq with ⟨rfl, q⟩ | ⟨rfl, q⟩
  · exact Or.inl ⟨hv, (same_list cs ds).mp q⟩
  · exact Or.inr ⟨hv, fun e => q ((same_list cs ds).mpr e)⟩
end StrChars.Road
namespace StrChars.Road
open Jvm Sem ClassFile Op Lib Jvm.Stand Jvm.Free Jvm.Free.XT
open Jvm.Lib.Cold (StaticIs)
/-- what backV says of its String, as the contracts of this text ask it: cs's low bytes, coder 0 -/
theorem codOf {cs : List Int32} {n : Nat} (hn : cs.length = n) (hb : ∀ c ∈ cs, ¬ 255 < c) : CodA cs 0 (Int32.ofNat n) ((cs.map lo8).map Value.int) := Or.inl ⟨rfl, by rw [hn], by simp [List.map_map, Function.comp_def], hb⟩
end StrChars.Road
end Jvm.Pilot.@@N@@

namespace Jvm.Pilot.@@N@@
open Jvm Jvm.ClassFile Sem Op Lib Jvm.Free Jvm.Stand Jvm.LawKit Jvm.RoadKit Bundle Jvm.Pilot.@@N@@.Jvm.D
section OwnKit
/-- from S the run comes to an end that G takes -/
def own_Fin (tb : Tables) (e : Env) (below : List Frame) (G : State → Outcome → Prop) (S : State) : Prop := ∃ s₂ o, Steps tb e below S s₂ ∧ s₂.status = .running ∧ Ended s₂ below o ∧ G s₂ o
theorem own_go {tb : Tables} {e : Env} {below : List Frame} {G : State → Outcome → Prop} {S S' : State} (k : ∀ t, Steps tb e below S' t → Steps tb e below S t) (h : own_Fin tb e below G S') : own_Fin tb e below G S := by
  obtain ⟨t, o, a, b⟩ := h
  exact ⟨t, o, k t a, b⟩
theorem own_at {Z : State} {a0 : Array Value} {ws : List Jvm.Cond} (hw : ∀ d ∈ ws, d.before a0 Z = true) (i : Nat) {d : Jvm.Cond} (h : ws[i]? = some d) : d.before a0 Z = true := hw _ (List.mem_of_getElem? h)
def own_bi : Bool → Int32
  | true => 1
  | false => 0
theorem own_bi0 {b : Bool} (h : b = false) : own_bi b = 0 := by rw [h]; rfl
theorem own_bi1 {b : Bool} (h : b = true) : ¬ own_bi b = 0 := by rw [h]; decide
theorem own_dT {P : Prop} [Decidable P] (h : P) : (1 : Int32) = own_bi (decide P) := by rw [decide_eq_true h]; rfl
theorem own_dF {P : Prop} [Decidable P] (h : ¬ P) : (0 : Int32) = own_bi (decide P) := by rw [decide_eq_false h]; rfl
theorem own_dc {α : Type} [DecidableEq α] (a b : α) : decide (a = b) = decide (b = a) := decide_eq_decide.mpr eq_comm
theorem own_tf (b : Bool) : b = true ∨ b = false := by cases b <;> simp
theorem own_nb (b : Bool) : narrow .boolean (.int (own_bi b)) = .int (own_bi b) := by cases b <;> rfl
theorem own_fb (b : Bool) : fits .boolean (.int (own_bi b)) = true := by cases b <;> rfl
theorem own_nr {t : FieldType} {v : Value} (h : v.isRef = true) : narrow t v = v := by cases v <;> first | (simp [Value.isRef] at h; done) | (cases t <;> rfl)
theorem own_store {l l' : Array Slot} {i : Nat} {v : Value} {o : Slot} (hold : l[i]? = some o) (ho : o = .unset ∨ ∃ w, o = .val w ∧ w.category = 1) (hv : v.category = 1) (e : l.setIfInBounds i (.val v) = l') : storeLocals l i v = some l' := e ▸ XS.store1 hold ho hv
theorem own_eqI {args : Array Value} {s : State} {t : Term} {k : Int32} (h : (Jvm.Cond.eq t (Term.int k)).value args s none s [] = some true) : t.eval args s none [] s = some (.int k) := by
  simp only [Jvm.Cond.value, Term.eval] at h
  cases ht : t.eval args s none [] s with
  | none => simp [ht] at h
  | some x => cases x <;> simp [ht] at h ⊢; exact h
theorem own_eqR {args : Array Value} {s : State} {t u : Term} {a : Addr} (h : (Jvm.Cond.eq t u).value args s none s [] = some true) (hu : u.eval args s none [] s = some (.ref a)) : t.eval args s none [] s = some (.ref a) := by
  simp only [Jvm.Cond.value, hu] at h
  cases ht : t.eval args s none [] s with
  | none => simp [ht] at h
  | some x => cases x <;> simp [ht] at h ⊢; exact h
theorem own_size {Z : State} {n0 : Nat} {h : Heap} (X : Old Z n0 h) : n0 ≤ h.size := X.1 ▸ X.2.1
section
variable {p : Program} {l : Launch} {e : Env} {R : Room} {s : State} {m : MethodId} {args : Array Value} {below : List Frame} {meth : Method} {c : Code} {T : State} {locs : List Loc} {cells slots : Nat}
theorem own_mono (X : Stand p l e R s m args below meth c T locs cells slots) {k n : Nat} (hk : cells ≤ k) (hn : slots ≤ n) : Stand p l e R s m args below meth c T locs k n := { X with same := X.same.mono hk hn }
theorem own_rv (X : Stand p l e R s m args below meth c T locs cells slots) (hx : p.tables.exec = Jvm.exec) {pc : Nat} {Ls : Array Slot} {w : Value} {t : FieldType} {i : Instr} {rest : List Value} (hret : meth.sig.returnType = some t) (hn : narrow t w = w)
    (hi : (i = .ireturn ∧ (t = .int ∨ t = .boolean ∨ t = .byte ∨ t = .char ∨ t = .short) ∧ ∃ z, w = .int z) ∨ (i = .lreturn ∧ t = .long ∧ ∃ z, w = .long z) ∨ (i = .dreturn ∧ t = .double ∧ ∃ z, w = .double z) ∨ (i = .freturn ∧ t = .float ∧ ∃ z, w = .float z) ∨ (i = .areturn ∧ t.isReference = true ∧ w.isRef = true))
    (hd : decode c.code pc = .ok (i, 1)) (hlocks : meth.locks = false) {Q : Option Value → Heap → List Loc → Prop} {k n : Nat} (h1 : cells ≤ k) (h2 : slots ≤ n) (hQ : Q (some w) T.heap locs) :
    own_Fin p.tables e below (fun s₂ o => ∃ v L, o = .returned v ∧ Q v s₂.heap L ∧ FrameEnd s o s₂ L k n) (T.setTop (mkF m pc Ls (w :: rest))) := by
  obtain ⟨fs, hr, hrun, hended, hW, hsame⟩ := X.leave (v := some w) (fun h => by rw [hret] at h; cases h) hlocks
  exact ⟨_, _, retOut X hx hret hn hi hd hr, hrun, hended, _, _, rfl, hQ, ⟨_, rfl⟩, hW, hsame.mono h1 h2⟩
theorem own_r0 (X : Stand p l e R s m args below meth c T locs cells slots) (hx : p.tables.exec = Jvm.exec) {pc : Nat} {Ls : Array Slot} (hret : meth.sig.returnType = none)
    (hd : decode c.code pc = .ok (.return_, 1)) (hlocks : meth.locks = false) {Q : Option Value → Heap → List Loc → Prop} {k n : Nat} (h1 : cells ≤ k) (h2 : slots ≤ n) (hQ : Q none T.heap locs) :
    own_Fin p.tables e below (fun s₂ o => ∃ v L, o = .returned v ∧ Q v s₂.heap L ∧ FrameEnd s o s₂ L k n) (T.setTop (mkF m pc Ls [])) := by
  obtain ⟨fs, hr, hrun, hended, hW, hsame⟩ := X.leave (v := none) (fun _ => rfl) hlocks
  exact ⟨_, _, X.returnOut hx hret hd hr, hrun, hended, _, _, rfl, hQ, ⟨_, rfl⟩, hW, hsame.mono h1 h2⟩
theorem own_rvW {vm₁ : Vm} (X : Stand p l e R (s.setVm vm₁) m args below meth c T locs cells slots) {kk : Nat} (hS : s.Since vm₁ kk) (hk : kk ≤ T.heap.size) (hx : p.tables.exec = Jvm.exec) {pc : Nat} {Ls : Array Slot} {w : Value} {t : FieldType} {i : Instr} {rest : List Value} (hret : meth.sig.returnType = some t) (hn : narrow t w = w)
    (hi : (i = .ireturn ∧ (t = .int ∨ t = .boolean ∨ t = .byte ∨ t = .char ∨ t = .short) ∧ ∃ z, w = .int z) ∨ (i = .lreturn ∧ t = .long ∧ ∃ z, w = .long z) ∨ (i = .dreturn ∧ t = .double ∧ ∃ z, w = .double z) ∨ (i = .freturn ∧ t = .float ∧ ∃ z, w = .float z) ∨ (i = .areturn ∧ t.isReference = true ∧ w.isRef = true))
    (hd : decode c.code pc = .ok (i, 1)) (hlocks : meth.locks = false) {Q : Option Value → Heap → List Loc → Prop} {k n : Nat} (h1 : cells ≤ k) (h2 : slots ≤ n) (hQ : Q (some w) T.heap locs) :
    own_Fin p.tables e below (fun s₂ o => ∃ v L, o = .returned v ∧ Q v s₂.heap L ∧ ReturnedEndW s o s₂ L k n) (T.setTop (mkF m pc Ls (w :: rest))) := by
  obtain ⟨fs, hr, hrun, hended, q1, q2, q3, q4⟩ := leaveW X hS hk (v := some w) (fun h => by rw [hret] at h; cases h) hlocks
  exact ⟨_, _, retOut X hx hret hn hi hd hr, hrun, hended, _, _, rfl, hQ, q1, q2, q3, q4.mono h1 h2⟩
theorem own_r0W {vm₁ : Vm} (X : Stand p l e R (s.setVm vm₁) m args below meth c T locs cells slots) {kk : Nat} (hS : s.Since vm₁ kk) (hk : kk ≤ T.heap.size) (hx : p.tables.exec = Jvm.exec) {pc : Nat} {Ls : Array Slot} (hret : meth.sig.returnType = none)
    (hd : decode c.code pc = .ok (.return_, 1)) (hlocks : meth.locks = false) {Q : Option Value → Heap → List Loc → Prop} {k n : Nat} (h1 : cells ≤ k) (h2 : slots ≤ n) (hQ : Q none T.heap locs) :
    own_Fin p.tables e below (fun s₂ o => ∃ v L, o = .returned v ∧ Q v s₂.heap L ∧ ReturnedEndW s o s₂ L k n) (T.setTop (mkF m pc Ls [])) := by
  obtain ⟨fs, hr, hrun, hended, q1, q2, q3, q4⟩ := leaveW X hS hk (v := none) (fun _ => rfl) hlocks
  exact ⟨_, _, X.returnOut hx hret hd hr, hrun, hended, _, _, rfl, hQ, q1, q2, q3, q4.mono h1 h2⟩
theorem own_rvH {Z : State} {a0 : Array Value} {EL : List (String × Nat)} {h0 h : Heap} {vm₁ : Vm} (X : Stand p l e R (s.setVm vm₁) m args below meth c T locs cells slots) {kk : Nat} (hS : s.Since vm₁ kk) (hk : kk ≤ T.heap.size) (hZ : Z.Warmed39 vm₁) (hEL : EW Z a0 EL) (hh : s.heap = h0) (eT : T.heap = h) (CH : CHr Z EL s.vm h0 vm₁ h) (hx : p.tables.exec = Jvm.exec) {pc : Nat} {Ls : Array Slot} {w : Value} {t : FieldType} {i : Instr} {rest : List Value} (hret : meth.sig.returnType = some t) (hn : narrow t w = w)
    (hi : (i = .ireturn ∧ (t = .int ∨ t = .boolean ∨ t = .byte ∨ t = .char ∨ t = .short) ∧ ∃ z, w = .int z) ∨ (i = .lreturn ∧ t = .long ∧ ∃ z, w = .long z) ∨ (i = .dreturn ∧ t = .double ∧ ∃ z, w = .double z) ∨ (i = .freturn ∧ t = .float ∧ ∃ z, w = .float z) ∨ (i = .areturn ∧ t.isReference = true ∧ w.isRef = true))
    (hd : decode c.code pc = .ok (i, 1)) (hlocks : meth.locks = false) {Q : Option Value → Heap → List Loc → Prop} {k n : Nat} (h1 : cells ≤ k) (h2 : slots ≤ n) (hQ : Q (some w) T.heap locs) :
    own_Fin p.tables e below (fun s₂ o => ∃ v L, o = .returned v ∧ Q v s₂.heap L ∧ CHr Z EL s.vm s.heap s₂.vm s₂.heap ∧ ReturnedEndW s o s₂ L k n) (T.setTop (mkF m pc Ls (w :: rest))) := by
  obtain ⟨fs, hr, hrun, hended, q1, q2, q3, q4⟩ := leaveW X hS hk (v := some w) (fun h => by rw [hret] at h; cases h) hlocks
  subst eT hh
  have A := CH.trans (CHv.at X hZ hEL CH.1)
  exact ⟨_, _, retOut X hx hret hn hi hd hr, hrun, hended, _, _, rfl, hQ, A, q1, q2, q3, q4.mono h1 h2⟩
theorem own_r0H {Z : State} {a0 : Array Value} {EL : List (String × Nat)} {h0 h : Heap} {vm₁ : Vm} (X : Stand p l e R (s.setVm vm₁) m args below meth c T locs cells slots) {kk : Nat} (hS : s.Since vm₁ kk) (hk : kk ≤ T.heap.size) (hZ : Z.Warmed39 vm₁) (hEL : EW Z a0 EL) (hh : s.heap = h0) (eT : T.heap = h) (CH : CHr Z EL s.vm h0 vm₁ h) (hx : p.tables.exec = Jvm.exec) {pc : Nat} {Ls : Array Slot} (hret : meth.sig.returnType = none)
    (hd : decode c.code pc = .ok (.return_, 1)) (hlocks : meth.locks = false) {Q : Option Value → Heap → List Loc → Prop} {k n : Nat} (h1 : cells ≤ k) (h2 : slots ≤ n) (hQ : Q none T.heap locs) :
    own_Fin p.tables e below (fun s₂ o => ∃ v L, o = .returned v ∧ Q v s₂.heap L ∧ CHr Z EL s.vm s.heap s₂.vm s₂.heap ∧ ReturnedEndW s o s₂ L k n) (T.setTop (mkF m pc Ls [])) := by
  obtain ⟨fs, hr, hrun, hended, q1, q2, q3, q4⟩ := leaveW X hS hk (v := none) (fun _ => rfl) hlocks
  subst eT hh
  have A := CH.trans (CHv.at X hZ hEL CH.1)
  exact ⟨_, _, X.returnOut hx hret hd hr, hrun, hended, _, _, rfl, hQ, A, q1, q2, q3, q4.mono h1 h2⟩
theorem own_hk {h : Heap} {k : Nat} (e : T.heap = h) (hk : k ≤ h.size) : k ≤ T.heap.size := e ▸ hk
theorem own_rebZ {Z : State} {vm0 vm1 : Vm} {n : Nat} (hZ : Z.Warmed39 vm0) (h : (s.setVm vm0).Since vm1 n) : Z.Warmed39 vm1 := State.Warmed39.trans (t := s.setVm vm0) hZ h.1
theorem own_rebO {vm0 vm1 : Vm} {n : Nat} {own : String} {k : ClassId} (hown : vm0.findClass own = some k) (h : (s.setVm vm0).Since vm1 n) : vm1.findClass own = some k := by rw [h.1.alike.findClass]; exact hown
theorem own_noCast {Z : State} {a0 : Array Value} {X Y : String} {t : List String} {n : Nat} (hw : ∀ w ∈ Jvm.Cond.chainWords (X :: t), w.before a0 Z = true) (hY : (Jvm.Cond.instantiable Y n).before a0 Z = true) (hn : Y ∉ X :: t) : ∃ c t, Z.vm.findClass X = some c ∧ Z.vm.findClass Y = some t ∧ Z.vm.assignable c t = false := by
  obtain ⟨cx, k, hx, -, -, -⟩ := Cond.chain_head hw
  obtain ⟨cy, ky, hy, h2, h3, h4, -⟩ := Cond.instantiable_spec hY
  simp only [Bool.or_eq_false_iff] at h4
  exact ⟨cx, cy, hx, hy, Vm.notAssignable_of_chain hx hy h2 h3 h4.1 hw hn⟩
end
end OwnKit
abbrev EL : List (String × Nat) := [("java/lang/String", 7)]
def own_iv (j : Int32) : Int32 := j - 128
theorem own_eqh {h h' : Heap} {P : Heap → Prop} (e : h = h') (q : P h') : P h := e ▸ q
theorem own_sa {Z : State} {a0 : Array Value} (hw : ∀ d ∈ tables_1, d.before a0 Z = true) : ∀ a ∈ Bundle.stringAtoms, a.before a0 Z = true := by
  intro a ha
  simp only [Bundle.stringAtoms, List.mem_cons, List.not_mem_nil, or_false] at ha
  rcases ha with rfl | rfl | rfl | rfl | rfl | rfl | rfl
  · exact own_at hw 6 rfl
  · exact own_at hw 5 rfl
  · exact own_at hw 19 rfl
  · exact own_at hw 20 rfl
  · exact own_at hw 21 rfl
  · exact own_at hw 22 rfl
  · exact own_at hw 23 rfl
theorem own_EW {Z : State} {a0 : Array Value} (hw : ∀ d ∈ tables_1, d.before a0 Z = true) : EW Z a0 EL := EW.cons (own_at hw 18 rfl) (by decide) EW.nil
theorem own_mem : (("java/lang/String", 7) : String × Nat) ∈ EL := List.mem_cons_self ..
theorem own_weq {Z : State} {a0 : Array Value} (hw : ∀ d ∈ tables_1, d.before a0 Z = true) : ∀ d ∈ StrChars.Road.wordsEq, d.before a0 Z = true := fun d hd => hw d ((by decide +kernel : ∀ d ∈ StrChars.Road.wordsEq, d ∈ tables_1) d hd)
theorem own_wst {Z : State} {a0 : Array Value} (hw : ∀ d ∈ tables_1, d.before a0 Z = true) : ∀ d ∈ StrChars.Road.words, d.before a0 Z = true := fun d hd => hw d ((by decide +kernel : ∀ d ∈ StrChars.Road.words, d ∈ tables_1) d hd)
/-- a compact String that spells cs, at most three signs -/
def own_S (Z : State) (h : Heap) (a : Addr) (cs : List Int32) : Prop := ∃ (t : Addr) (kb : ClassId), Exa Z h a "java/lang/String" ∧ Fld Z h a "java/lang/String" "coder" "B" (.int (0 : Int32)) ∧ Fld Z h a "java/lang/String" "value" "[B" (.ref t) ∧ Arv Z h t kb .byte (Int32.ofNat cs.length) ((cs.map fun c => c.toInt8.toInt32).map Value.int) (.int 0) ∧ (∀ c ∈ cs, ¬ c < 0 ∧ ¬ (255 : Int32) < c) ∧ cs.length ≤ 3
theorem own_S.keep0 {Z : State} {h h' : Heap} {a : Addr} {cs : List Int32} (S : own_S Z h a cs) (K : Keep h h' []) : own_S Z h' a cs := by
  obtain ⟨t, kb, E, C, V, A, r⟩ := S
  exact ⟨t, kb, E.keep K, C.keep K nin0, V.keep K nin0, A.keep K nin0, r⟩
theorem own_S.ext {Z : State} {h h' : Heap} {a : Addr} {cs : List Int32} (S : own_S Z h a cs) (E0 : Ext h h') : own_S Z h' a cs := by
  obtain ⟨t, kb, E, C, V, A, r⟩ := S
  exact ⟨t, kb, E.ext E0, C.ext E0, V.ext E0, A.ext E0, r⟩
theorem own_S.exa {Z : State} {h : Heap} {a : Addr} {cs : List Int32} (S : own_S Z h a cs) : Exa Z h a "java/lang/String" := by obtain ⟨t, kb, E, -⟩ := S; exact E
def own_c (p : Int32) (k : Int32) : Int32 := ((p.toUInt32 >>> (k &&& 31).toUInt32).toInt32 &&& (255 : Int32))
def own_cs (p : Int32) : List Int32 :=
  if (p &&& (3 : Int32)) = 0 then [] else if (p &&& (3 : Int32)) = 1 then [((p.toUInt32 >>> ((2 : Int32) &&& 31).toUInt32).toInt32 &&& (255 : Int32))]
  else if (p &&& (3 : Int32)) = 2 then [((p.toUInt32 >>> ((2 : Int32) &&& 31).toUInt32).toInt32 &&& (255 : Int32)), ((p.toUInt32 >>> ((10 : Int32) &&& 31).toUInt32).toInt32 &&& (255 : Int32))]
  else [((p.toUInt32 >>> ((2 : Int32) &&& 31).toUInt32).toInt32 &&& (255 : Int32)), ((p.toUInt32 >>> ((10 : Int32) &&& 31).toUInt32).toInt32 &&& (255 : Int32)), ((p.toUInt32 >>> ((18 : Int32) &&& 31).toUInt32).toInt32 &&& (255 : Int32))]
theorem own_eqv {v : Option Value} {cs ds : List Int32} (h : (v = some (.int 1) ∧ cs = ds) ∨ (v = some (.int 0) ∧ ¬ cs = ds)) : v = some (.int (own_bi (decide (cs = ds)))) := by
  rcases h with ⟨h, q⟩ | ⟨h, q⟩ <;> simp [h, q, own_bi]
theorem own_up {cs : List Int32} (h : ∀ c ∈ cs, ¬ c < 0 ∧ ¬ (255 : Int32) < c) : ∀ c ∈ cs, ¬ c < 0 ∧ ¬ (65535 : Int32) < c := fun c hc => ⟨(h c hc).1, by
  have q := (h c hc).2
  rw [Int32.lt_iff_toInt_lt] at q ⊢
  have e1 : (255 : Int32).toInt = 255 := by decide
  have e2 : (65535 : Int32).toInt = 65535 := by decide
  omega⟩
theorem own_b255 (x : Int32) : ¬ (x &&& (255 : Int32)) < 0 ∧ ¬ (255 : Int32) < (x &&& (255 : Int32)) := by
  have h : (x &&& (255 : Int32)).toBitVec.toNat ≤ 255 := by
    show (x.toBitVec &&& 255#32).toNat ≤ 255
    rw [BitVec.toNat_and]; exact Nat.and_le_right
  have e : (255 : Int32).toInt = 255 := by decide
  have e2 : (x &&& (255 : Int32)).toInt = (x &&& (255 : Int32)).toBitVec.toNat := by
    show (x &&& (255 : Int32)).toBitVec.toInt = _
    rw [BitVec.toInt_eq_toNat_cond, if_pos (by omega)]
  rw [Jvm.Free.XT.negI32, Int32.lt_iff_toInt_lt]
  omega
theorem own_inb (q : Int32) (c : Cell) (S : c.slots.size = (256 : Int32).toNatClampNeg) (h1 : ¬ (q < (-128 : Int32))) (h2 : ¬ ((127 : Int32) < q)) : ¬ ((q + (128 : Int32)) < 0 ∨ c.slots.size ≤ (q + (128 : Int32)).toNatClampNeg) := by
  rw [Int32.lt_iff_toInt_lt] at h1 h2
  have e1 : (-128 : Int32).toInt = -128 := by decide
  have e2 : (127 : Int32).toInt = 127 := by decide
  have e3 : (128 : Int32).toInt = 128 := by decide
  have n2 : (q + (128 : Int32)).toInt = q.toInt + 128 := by rw [Jvm.Free.XT.add32 ⟨by rw [e3]; omega, by rw [e3]; omega⟩, e3]
  have e4 : (256 : Int32).toNatClampNeg = 256 := by decide
  rw [Jvm.Free.XT.negI32, S, e4]
  simp only [Int32.toNatClampNeg, n2]
  omega
theorem own_cs0 {args : Array Value} {s : State} {t : Term} {cs : Int32} (e : t.eval args s none [] s = some (.int cs)) (h : (Jvm.Cond.not (Jvm.Cond.eq t (Term.int (0 : Int32)))).value args s none s [] = some true) : ¬ (cs = 0) := by
  rintro rfl
  simp [Jvm.Cond.value, e, Term.eval] at h
theorem own_sub {args : Array Value} {s : State} {t : Term} {idx : List Nat} {y : Int32} (h : t.eval args s none idx s = some (.int y)) : (Term.sub t (Term.int (128 : Int32))).eval args s none idx s = some (.int (y - 128)) := by simp [Term.eval, h]
theorem own_len {args : Array Value} {s : State} {t : Term} {a : Addr} {c : Cell} {ty : FieldType} {k : Int32} (e : t.eval args s none [] s = some (.ref a)) (A : Arr s s.heap a c ty) (h : (Jvm.Cond.eq (Term.length t) (Term.int k)).value args s none s [] = some true) : c.slots.size < 2 ^ 31 ∧ c.slots.size.toInt32 = k := by
  have h2 := own_eqI h
  have h3 := A.fin (Vm.Alike.refl _)
  simp only [Term.eval, e, Option.bind_eq_bind, Option.bind_some, h3] at h2
  by_cases q : c.slots.size < 2 ^ 31
  · refine ⟨q, ?_⟩
    simpa [q] using h2
  · simp [q] at h2
theorem own_sy (y2 y1 : List Int32) (p2 p1 q2 q1 : Int32) (z2 z1 : List Int32) : own_bi (decide (y2 = y1) && (decide (p2 = p1) && (decide (q2 = q1) && decide (z2 = z1)))) = own_bi (decide (y1 = y2) && (decide (p1 = p2) && (decide (q1 = q2) && decide (z1 = z2)))) := by
  rw [own_dc y2 y1, own_dc p2 p1, own_dc q2 q1, own_dc z2 z1]
theorem own_tt {y : List Int32} {p q : Int32} {z : List Int32} : own_bi (decide (y = y) && (decide (p = p) && (decide (q = q) && decide (z = z)))) = 1 := by simp [own_bi]
/-- a String that still holds no array is no booked constant's cell -/
theorem own_safe {Z : State} {vm : Vm} {h : Heap} {x : Addr} (hal : Z.vm.Alike vm) (E : Exa Z h x "java/lang/String") (F : Fld Z h x "java/lang/String" "value" "[B" .null) : Safe Z EL vm h x := fun B => by
  obtain ⟨p, -, u, a, -, q, -, G, rfl | rfl⟩ := B
  · obtain ⟨cell, cf, k, i, f, h1, h2, -, -, -, -, h7⟩ := F
    have e1 : q.sC = cell := Option.some.inj ((show h[q.sa]? = some q.sC from G.ha).symm.trans h1)
    obtain ⟨cS, ⟨⟨-, -, -, ⟨c1, k1, i1, f1, -⟩, -, -, -, v1, -⟩, -⟩, -⟩ := G
    obtain ⟨k3, e3, -⟩ := State.fieldFound?_setVm (s := { Z with heap := h }) (vm' := vm) hal h2
    have e4 := (show (Wst Z vm h).fieldFound? _ _ _ = _ from e3).symm.trans f1
    simp only [Option.some.injEq, Prod.mk.injEq] at e4
    rw [e1, ← e4.2.2.2, h7] at v1
    cases v1
  · obtain ⟨cell, k, e1, e2, e3, -, -⟩ := E
    have ec : q.SA = cell := Option.some.inj ((show h[q.sd]? = some q.SA from G.hd).symm.trans e1)
    obtain ⟨cS, -, -, g, -⟩ := G
    have g' : vm.findClass "[B" = some q.SA.cls := g
    rw [hal.findClass, ec] at g'
    obtain ⟨k1, q1, q2⟩ := Vm.findClass_spec g'
    obtain ⟨k2, q3, q4⟩ := Vm.findClass_spec e2
    cases q1.symm.trans q3
    exact absurd (q2.symm.trans q4) (by decide)
theorem own_ef_own_rnn (m : MethodId) (a1 : Addr) (a2 : Addr)  : entryFrame m #[(.ref a1), (.ref a2)] 2 = (mkF m 0 #[.val (.ref a1), .val (.ref a2)] []) := by first | (simp [entryFrame, mkF, argsToLocals, Value.category]; done) | rfl
theorem own_pn0 : plainName "java/util/Objects" = true := by first | (simp [plainName, overriddenIn]; done) | decide +kernel
theorem own_d0_0 : decode jdk_31_method_11_code 0 = .ok (.aload_n 0, 1) := by decide +kernel
theorem own_d0_1 : decode jdk_31_method_11_code 1 = .ok (.ifnonnull 12, 3) := by decide +kernel
theorem own_d0_13 : decode jdk_31_method_11_code 13 = .ok (.aload_n 0, 1) := by decide +kernel
theorem own_d0_14 : decode jdk_31_method_11_code 14 = .ok (.areturn, 1) := by decide +kernel
def own_Q_own_rnn (Z : State) (a1 : Addr) (a2 : Addr) (h0 : Heap) (n0 : Nat) (v : Option Value) (h : Heap) (L : List Loc) : Prop := v = some (.ref a1) ∧ Fr n0 L ∧ h = h0
set_option maxRecDepth 65536 in
set_option maxHeartbeats 40000000 in
theorem own_rnn (l : Launch) (Z : State) (a0 : Array Value) (hw : ∀ d ∈ tables_1, d.before a0 Z = true) (ws : List Jvm.Cond) (a1 : Addr) (a2 : Addr) (h0 : Heap) (n0 : Nat) (O0 : Old Z n0 h0) :
    MetFree l (⟨"java/util/Objects", "requireNonNull", "(Ljava/lang/Object;Ljava/lang/String;)Ljava/lang/Object;"⟩ : MethodName) (head1 (Jvm.Cond.code (⟨"java/util/Objects", "requireNonNull", "(Ljava/lang/Object;Ljava/lang/String;)Ljava/lang/Object;"⟩ : MethodName) jdk_31_method_11_code 2 (some (.object "java/lang/Object")) :: ws) ({ frames := 0, cells := 0, slots := 0, locals := 0 } : Room)) (fun as' U => as' = #[(.ref a1), (.ref a2)] ∧ Z.Warmed39 U.vm ∧ U.heap = h0) (fun _ _ _ _ _ => True) (fun _ U o U' => ∃ v L, o = .returned v ∧ own_Q_own_rnn Z a1 a2 h0 n0 v U'.heap L ∧ FrameEnd U o U' L ({ frames := 0, cells := 0, slots := 0, locals := 0 } : Room).cells ({ frames := 0, cells := 0, slots := 0, locals := 0 } : Room).slots) := by
  refine MetFree.of_bodySF (plainFor_of_name own_pn0) hisR ?_
  intro p e s m args below meth c s₁ Bd hml0 hP hK
  obtain ⟨rfl, hZ, hh⟩ := hP
  have hx := Bd.exec
  have hby := Bd.bytes
  have hml : c.maxLocals = 2 := hml0
  have hown : s.vm.findClass "java/util/Objects" = some m.cls := findClass_of_methodNamed Bd.named
  have hnm := (name_of_methodNamed Bd.named Bd.method).1
  have X0 : Stand p l e ({ frames := 0, cells := 0, slots := 0, locals := 0 } : Room) s m #[(.ref a1), (.ref a2)] below meth c s₁ [] 0 0 := Stand.of_body Bd
  have e0 : s₁.heap = h0 := by rw [← hh, Bd.state]; rfl
  have N0 := Fr.nil n0
  show own_Fin p.tables e below (fun s₂ o => ∃ v L, o = .returned v ∧ own_Q_own_rnn Z a1 a2 h0 n0 v s₂.heap L ∧ FrameEnd s o s₂ L ({ frames := 0, cells := 0, slots := 0, locals := 0 } : Room).cells ({ frames := 0, cells := 0, slots := 0, locals := 0 } : Room).slots) _
  generalize hG : (fun (s₂ : State) (o : Outcome) => ∃ v L, o = Outcome.returned v ∧ own_Q_own_rnn Z a1 a2 h0 n0 v s₂.heap L ∧ FrameEnd s o s₂ L ({ frames := 0, cells := 0, slots := 0, locals := 0 } : Room).cells ({ frames := 0, cells := 0, slots := 0, locals := 0 } : Room).slots) = G
  refine own_go (fun _ k => castTop (own_ef_own_rnn m a1 a2) k) ?_
  show own_Fin p.tables e below G (s₁.setTop (mkF m 0 #[.val (.ref a1), .val (.ref a2)] []))
  refine own_go (fun _ k => XS.aloadN X0.here hx rfl (hb hby own_d0_0) rfl rfl k) ?_
  show own_Fin p.tables e below G (s₁.setTop (mkF m 1 #[.val (.ref a1), .val (.ref a2)] [(.ref a1)]))
  refine own_go (fun _ k => XS.ifnonnullYes X0.here hx rfl (pc0 := 1) (pc' := 13) rfl (hb hby own_d0_1) rfl (by decide) (by decide) k) ?_
  show own_Fin p.tables e below G (s₁.setTop (mkF m 13 #[.val (.ref a1), .val (.ref a2)] []))
  refine own_go (fun _ k => XS.aloadN X0.here hx rfl (hb hby own_d0_13) rfl rfl k) ?_
  show own_Fin p.tables e below G (s₁.setTop (mkF m 14 #[.val (.ref a1), .val (.ref a2)] [(.ref a1)]))
  subst hG
  exact own_rv X0 hx (t := (.object "java/lang/Object")) Bd.returns rfl (Or.inr (Or.inr (Or.inr (Or.inr ⟨rfl, rfl, rfl⟩)))) (hb hby own_d0_14) Bd.notSynchronized (by decide) (by decide) ⟨rfl, N0, e0⟩
theorem own_ef_own_di (m : MethodId) (a : Addr) (f : Addr) (pn : Int32) (q : Int32) (g : Addr)  : entryFrame m #[(.ref a), (.ref f), (.int pn), (.int q), (.ref g)] 5 = (mkF m 0 #[.val (.ref a), .val (.ref f), .val (.int pn), .val (.int q), .val (.ref g)] []) := by first | (simp [entryFrame, mkF, argsToLocals, Value.category]; done) | rfl
theorem own_pn1 : plainName "com/example/tagwright/tagwright/diag/Diagnostic" = true := by first | (simp [plainName, overriddenIn]; done) | decide +kernel
theorem own_d1_0 : decode prog_1_method_1_code 0 = .ok (.aload_n 0, 1) := by decide +kernel
theorem own_d1_1 : decode prog_1_method_1_code 1 = .ok (.invokespecial 1, 3) := by decide +kernel
theorem own_d1_4 : decode prog_1_method_1_code 4 = .ok (.aload_n 0, 1) := by decide +kernel
theorem own_d1_5 : decode prog_1_method_1_code 5 = .ok (.aload_n 1, 1) := by decide +kernel
theorem own_d1_6 : decode prog_1_method_1_code 6 = .ok (.ldc 7, 2) := by decide +kernel
theorem own_pd0 : parseMethodDescriptor "(Ljava/lang/Object;Ljava/lang/String;)Ljava/lang/Object;" = some ⟨[(.object "java/lang/Object"), (.object "java/lang/String")], some (.object "java/lang/Object")⟩ := by decide +kernel
theorem own_d1_8 : decode prog_1_method_1_code 8 = .ok (.invokestatic 9, 3) := by decide +kernel
theorem own_d1_11 : decode prog_1_method_1_code 11 = .ok (.checkcast 15, 3) := by decide +kernel
theorem own_d1_14 : decode prog_1_method_1_code 14 = .ok (.putfield 17, 3) := by decide +kernel
theorem own_d1_17 : decode prog_1_method_1_code 17 = .ok (.aload_n 0, 1) := by decide +kernel
theorem own_d1_18 : decode prog_1_method_1_code 18 = .ok (.iload_n 2, 1) := by decide +kernel
theorem own_d1_19 : decode prog_1_method_1_code 19 = .ok (.putfield 22, 3) := by decide +kernel
theorem own_d1_22 : decode prog_1_method_1_code 22 = .ok (.aload_n 0, 1) := by decide +kernel
theorem own_d1_23 : decode prog_1_method_1_code 23 = .ok (.iload_n 3, 1) := by decide +kernel
theorem own_d1_24 : decode prog_1_method_1_code 24 = .ok (.putfield 26, 3) := by decide +kernel
theorem own_d1_27 : decode prog_1_method_1_code 27 = .ok (.aload_n 0, 1) := by decide +kernel
theorem own_d1_28 : decode prog_1_method_1_code 28 = .ok (.aload 4, 2) := by decide +kernel
theorem own_d1_30 : decode prog_1_method_1_code 30 = .ok (.ldc 29, 2) := by decide +kernel
theorem own_d1_32 : decode prog_1_method_1_code 32 = .ok (.invokestatic 9, 3) := by decide +kernel
theorem own_d1_35 : decode prog_1_method_1_code 35 = .ok (.checkcast 15, 3) := by decide +kernel
theorem own_d1_38 : decode prog_1_method_1_code 38 = .ok (.putfield 31, 3) := by decide +kernel
theorem own_d1_41 : decode prog_1_method_1_code 41 = .ok (.return_, 1) := by decide +kernel
def own_Q_own_di (Z : State) (a : Addr) (f : Addr) (pn : Int32) (q : Int32) (g : Addr) (h0 : Heap) (n0 : Nat) (v : Option Value) (h : Heap) (L : List Loc) : Prop := v = none ∧ Fr n0 L ∧ (fun h => Keep h0 h [a] ∧ Exa Z h a "com/example/tagwright/tagwright/diag/Diagnostic" ∧ Fld Z h a "com/example/tagwright/tagwright/diag/Diagnostic" "file" "Ljava/lang/String;" (.ref f) ∧ Fld Z h a "com/example/tagwright/tagwright/diag/Diagnostic" "line" "I" (.int pn) ∧ Fld Z h a "com/example/tagwright/tagwright/diag/Diagnostic" "column" "I" (.int q) ∧ Fld Z h a "com/example/tagwright/tagwright/diag/Diagnostic" "message" "Ljava/lang/String;" (.ref g)) h
set_option maxRecDepth 65536 in
set_option maxHeartbeats 40000000 in
theorem own_di (l : Launch) (Z : State) (a0 : Array Value) (hw : ∀ d ∈ tables_1, d.before a0 Z = true) (ws : List Jvm.Cond) (a : Addr) (f : Addr) (pn : Int32) (q : Int32) (g : Addr) (h0 : Heap) (n0 : Nat) (O0 : Old Z n0 h0) (Ea : Exa Z h0 a "com/example/tagwright/tagwright/diag/Diagnostic") (Ffile : Fld Z h0 a "com/example/tagwright/tagwright/diag/Diagnostic" "file" "Ljava/lang/String;" .null) (Fline : Fld Z h0 a "com/example/tagwright/tagwright/diag/Diagnostic" "line" "I" (.int (0 : Int32))) (Fcolumn : Fld Z h0 a "com/example/tagwright/tagwright/diag/Diagnostic" "column" "I" (.int (0 : Int32))) (Fmessage : Fld Z h0 a "com/example/tagwright/tagwright/diag/Diagnostic" "message" "Ljava/lang/String;" .null) (Ef : Exa Z h0 f "java/lang/String") (Eg : Exa Z h0 g "java/lang/String") (ga : n0 ≤ a) :
    MetFree l (⟨"com/example/tagwright/tagwright/diag/Diagnostic", "<init>", "(Ljava/lang/String;IILjava/lang/String;)V"⟩ : MethodName) (head1 (Jvm.Cond.code (⟨"com/example/tagwright/tagwright/diag/Diagnostic", "<init>", "(Ljava/lang/String;IILjava/lang/String;)V"⟩ : MethodName) prog_1_method_1_code 5 none :: ws) ({ frames := 1, cells := 4, slots := 52, locals := 14 } : Room)) (fun as' U => as' = #[(.ref a), (.ref f), (.int pn), (.int q), (.ref g)] ∧ Z.Warmed39 U.vm ∧ U.heap = h0) (fun _ _ _ _ _ => True) (fun _ U o U' => ∃ v L, o = .returned v ∧ own_Q_own_di Z a f pn q g h0 n0 v U'.heap L ∧ ReturnedEndW U o U' L ({ frames := 1, cells := 4, slots := 52, locals := 14 } : Room).cells ({ frames := 1, cells := 4, slots := 52, locals := 14 } : Room).slots) := by
  refine MetFree.of_bodySF (plainFor_of_name own_pn1) hisR ?_
  intro p e s m args below meth c s₁ Bd hml0 hP hK
  obtain ⟨rfl, hZ, hh⟩ := hP
  have hx := Bd.exec
  have hby := Bd.bytes
  have hml : c.maxLocals = 5 := hml0
  have hown : s.vm.findClass "com/example/tagwright/tagwright/diag/Diagnostic" = some m.cls := findClass_of_methodNamed Bd.named
  have hnm := (name_of_methodNamed Bd.named Bd.method).1
  have X0 : Stand p l e ({ frames := 1, cells := 4, slots := 52, locals := 14 } : Room) (s.setVm s.vm) m #[(.ref a), (.ref f), (.int pn), (.int q), (.ref g)] below meth c s₁ [] 0 0 := Stand.of_body Bd
  have e0 : s₁.heap = h0 := by rw [← hh, Bd.state]; rfl
  have N0 := Fr.nil n0
  show own_Fin p.tables e below (fun s₂ o => ∃ v L, o = .returned v ∧ own_Q_own_di Z a f pn q g h0 n0 v s₂.heap L ∧ ReturnedEndW s o s₂ L ({ frames := 1, cells := 4, slots := 52, locals := 14 } : Room).cells ({ frames := 1, cells := 4, slots := 52, locals := 14 } : Room).slots) _
  generalize hG : (fun (s₂ : State) (o : Outcome) => ∃ v L, o = Outcome.returned v ∧ own_Q_own_di Z a f pn q g h0 n0 v s₂.heap L ∧ ReturnedEndW s o s₂ L ({ frames := 1, cells := 4, slots := 52, locals := 14 } : Room).cells ({ frames := 1, cells := 4, slots := 52, locals := 14 } : Room).slots) = G
  have SS0 : s.Since s.vm h0.size := (State.WarmedH.refl s).since _
  have hk0 : h0.size ≤ h0.size := Nat.le_refl _
  have K0 := Keep.refl h0 [a]
  refine own_go (fun _ k => castTop (own_ef_own_di m a f pn q g) k) ?_
  show own_Fin p.tables e below G (s₁.setTop (mkF m 0 #[.val (.ref a), .val (.ref f), .val (.int pn), .val (.int q), .val (.ref g)] []))
  refine own_go (fun _ k => XS.aloadN X0.here hx rfl (hb hby own_d1_0) rfl rfl k) ?_
  show own_Fin p.tables e below G (s₁.setTop (mkF m 1 #[.val (.ref a), .val (.ref f), .val (.int pn), .val (.int q), .val (.ref g)] [(.ref a)]))
  obtain ⟨T1, X1, e1, st1⟩ := initO X0 hx hZ hown (own_at hw 43 rfl) (own_at hw 16 rfl) (own_at hw 17 rfl) e0 (g := (mkF m 1 #[.val (.ref a), .val (.ref f), .val (.int pn), .val (.int q), .val (.ref g)] [(.ref a)])) rfl (by rw [hml]; rfl) rfl (hb hby own_d1_1) (by decide) (W := 0) (by show 2 * 0 + _ ≤ _; exact Nat.le_of_eq rfl) (by decide)
  refine own_go st1 ?_
  show own_Fin p.tables e below G (T1.setTop (mkF m 4 #[.val (.ref a), .val (.ref f), .val (.int pn), .val (.int q), .val (.ref g)] []))
  refine own_go (fun _ k => XS.aloadN X1.here hx rfl (hb hby own_d1_4) rfl rfl k) ?_
  show own_Fin p.tables e below G (T1.setTop (mkF m 5 #[.val (.ref a), .val (.ref f), .val (.int pn), .val (.int q), .val (.ref g)] [(.ref a)]))
  refine own_go (fun _ k => XS.aloadN X1.here hx rfl (hb hby own_d1_5) rfl rfl k) ?_
  show own_Fin p.tables e below G (T1.setTop (mkF m 6 #[.val (.ref a), .val (.ref f), .val (.int pn), .val (.int q), .val (.ref g)] [(.ref f), (.ref a)]))
  obtain ⟨b2, T2, h2, k2, X2, e2, E2, SS2, hkk2, hZ2, hown2, st2⟩ := ldcS X1 hx hZ hown (own_at hw 44 rfl) (own_sa hw) e1 SS0 hk0 (g := (mkF m 6 #[.val (.ref a), .val (.ref f), .val (.int pn), .val (.int q), .val (.ref g)] [(.ref f), (.ref a)])) rfl (hb hby own_d1_6) (n := 16) (by decide) (by decide) (by decide) (by decide)
  refine own_go st2 ?_
  have F3 := Ffile.ext E2
  have F4 := Fline.ext E2
  have F5 := Fcolumn.ext E2
  have F6 := Fmessage.ext E2
  have E7 := Ea.ext E2
  have E8 := Ef.ext E2
  have E9 := Eg.ext E2
  have O10 := O0.ext E2
  have K11 := K0.ext E2
  have hk12 := Nat.le_trans hk0 E2.1
  show own_Fin p.tables e below G (T2.setTop (mkF m 8 #[.val (.ref a), .val (.ref f), .val (.int pn), .val (.int q), .val (.ref g)] [(.ref b2), (.ref f), (.ref a)]))
  obtain ⟨_, _, ⟨T13, L13, k13, n13⟩, -, X13, ⟨Lc13, hQ13, l13, y13, z13⟩, st13⟩ := Jvm.LawKit.callS X2 hx (y := (⟨"java/util/Objects", "requireNonNull", "(Ljava/lang/Object;Ljava/lang/String;)Ljava/lang/Object;"⟩ : MethodName)) hown2 (mvT hZ2 (own_at hw 45 rfl)) (mvT hZ2 (own_at hw 46 rfl)) (mvT hZ2 (own_at hw 47 rfl)) (mvT hZ2 (own_at hw 48 rfl)) (by decide) (backOf (W := 1) (own_rnn l Z a0 hw [] f b2 h2 n0 O10) hZ2 (own_at hw 48 rfl) (own_at hw 47 rfl) (by decide) (by decide)) (g := (mkF m 8 #[.val (.ref a), .val (.ref f), .val (.int pn), .val (.int q), .val (.ref g)] [(.ref b2), (.ref f), (.ref a)])) rfl (by rw [hml]; rfl) (argsL := [(.ref f), (.ref b2)]) (rest := [(.ref a)]) (lenOf own_pd0 rfl) rfl (by show 2 * 0 + _ ≤ _; exact Nat.le_of_eq rfl) (hb hby own_d1_8) (fun _ _ => ⟨rfl, e2, (by decide : 2 + 0 ≤ _), (by decide : 20 + 0 ≤ _)⟩)
  dsimp only [Pt.U, Pt.locs, Pt.cells, Pt.slots] at X13 l13 y13 z13 st13 hQ13
  subst l13 y13 z13
  obtain ⟨rfl, N13q, e13⟩ := hQ13
  have N13 := Fr.app N0 N13q
  refine own_go st13 ?_
  show own_Fin p.tables e below G (T13.setTop (mkF m 11 #[.val (.ref a), .val (.ref f), .val (.int pn), .val (.int q), .val (.ref g)] [(.ref f), (.ref a)]))
  obtain ⟨T14, X14, e14, st14⟩ := castY X13 hx hZ2 hown2 (own_at hw 49 rfl) e13 (Ins.self E8) (g := (mkF m 11 #[.val (.ref a), .val (.ref f), .val (.int pn), .val (.int q), .val (.ref g)] [(.ref f), (.ref a)])) rfl rfl (hb hby own_d1_11)
  refine own_go st14 ?_
  show own_Fin p.tables e below G (T14.setTop (mkF m 14 #[.val (.ref a), .val (.ref f), .val (.int pn), .val (.int q), .val (.ref g)] [(.ref f), (.ref a)]))
  obtain ⟨T15, h15, X15, e15, W15, st15⟩ := putF X14 hx hZ2 hown2 (host := "") (Or.inl (own_at hw 50 rfl)) Via.refl e14 F3 E7 (Or.inr ⟨(own_at hw 51 rfl), rfl, hnm⟩) (own_at hw 38 rfl) (ty := (.object "java/lang/String")) (by decide) rfl rfl (g := (mkF m 14 #[.val (.ref a), .val (.ref f), .val (.int pn), .val (.int q), .val (.ref g)] [(.ref f), (.ref a)])) rfl rfl (hb hby own_d1_14)
  refine own_go st15 ?_
  have Fw15 := F3.same W15
  have F16 := F4.other W15 (Or.inr (slot_ne (Or.inr (own_at hw 53 rfl)) (Or.inr (own_at hw 51 rfl)) (by decide) (t := .int) (t' := (.object "java/lang/String")) (by decide) (by decide)))
  have F17 := F5.other W15 (Or.inr (slot_ne (Or.inr (own_at hw 55 rfl)) (Or.inr (own_at hw 51 rfl)) (by decide) (t := .int) (t' := (.object "java/lang/String")) (by decide) (by decide)))
  have F18 := F6.other W15 (Or.inr (slot_ne (Or.inr (own_at hw 58 rfl)) (Or.inr (own_at hw 51 rfl)) (by decide) (t := (.object "java/lang/String")) (t' := (.object "java/lang/String")) (by decide) (by decide)))
  have E19 := E7.wr W15
  have E20 := E8.wr W15
  have E21 := E9.wr W15
  have O22 := O10.wr W15 ga
  have K23 := K11.wr W15 (Or.inl (List.mem_of_getElem? (i := 0) rfl))
  have hk24 := Nat.le_trans hkk2 (Keep.of_wr W15).1
  have N15 := Fr.snoc X15 N13 ga
  show own_Fin p.tables e below G (T15.setTop (mkF m 17 #[.val (.ref a), .val (.ref f), .val (.int pn), .val (.int q), .val (.ref g)] []))
  refine own_go (fun _ k => XS.aloadN X15.here hx rfl (hb hby own_d1_17) rfl rfl k) ?_
  show own_Fin p.tables e below G (T15.setTop (mkF m 18 #[.val (.ref a), .val (.ref f), .val (.int pn), .val (.int q), .val (.ref g)] [(.ref a)]))
  refine own_go (fun _ k => XS.iloadN X15.here hx rfl (hb hby own_d1_18) rfl k) ?_
  show own_Fin p.tables e below G (T15.setTop (mkF m 19 #[.val (.ref a), .val (.ref f), .val (.int pn), .val (.int q), .val (.ref g)] [(.int pn), (.ref a)]))
  obtain ⟨T25, h25, X25, e25, W25, st25⟩ := putF X15 hx hZ2 hown2 (host := "") (Or.inl (own_at hw 52 rfl)) Via.refl e15 F16 E19 (Or.inr ⟨(own_at hw 53 rfl), rfl, hnm⟩) (own_at hw 38 rfl) (ty := .int) (by decide) rfl rfl (g := (mkF m 19 #[.val (.ref a), .val (.ref f), .val (.int pn), .val (.int q), .val (.ref g)] [(.int pn), (.ref a)])) rfl rfl (hb hby own_d1_19)
  refine own_go st25 ?_
  have Fw25 := F16.same W25
  have F26 := F17.other W25 (Or.inr (slot_ne (Or.inr (own_at hw 55 rfl)) (Or.inr (own_at hw 53 rfl)) (by decide) (t := .int) (t' := .int) (by decide) (by decide)))
  have F27 := F18.other W25 (Or.inr (slot_ne (Or.inr (own_at hw 58 rfl)) (Or.inr (own_at hw 53 rfl)) (by decide) (t := (.object "java/lang/String")) (t' := .int) (by decide) (by decide)))
  have F28 := Fw15.other W25 (Or.inr (slot_ne (Or.inr (own_at hw 51 rfl)) (Or.inr (own_at hw 53 rfl)) (by decide) (t := (.object "java/lang/String")) (t' := .int) (by decide) (by decide)))
  have E29 := E19.wr W25
  have E30 := E20.wr W25
  have E31 := E21.wr W25
  have O32 := O22.wr W25 ga
  have K33 := K23.wr W25 (Or.inl (List.mem_of_getElem? (i := 0) rfl))
  have hk34 := Nat.le_trans hk24 (Keep.of_wr W25).1
  have N25 := Fr.snoc X25 N15 ga
  show own_Fin p.tables e below G (T25.setTop (mkF m 22 #[.val (.ref a), .val (.ref f), .val (.int pn), .val (.int q), .val (.ref g)] []))
  refine own_go (fun _ k => XS.aloadN X25.here hx rfl (hb hby own_d1_22) rfl rfl k) ?_
  show own_Fin p.tables e below G (T25.setTop (mkF m 23 #[.val (.ref a), .val (.ref f), .val (.int pn), .val (.int q), .val (.ref g)] [(.ref a)]))
  refine own_go (fun _ k => XS.iloadN X25.here hx rfl (hb hby own_d1_23) rfl k) ?_
  show own_Fin p.tables e below G (T25.setTop (mkF m 24 #[.val (.ref a), .val (.ref f), .val (.int pn), .val (.int q), .val (.ref g)] [(.int q), (.ref a)]))
  obtain ⟨T35, h35, X35, e35, W35, st35⟩ := putF X25 hx hZ2 hown2 (host := "") (Or.inl (own_at hw 54 rfl)) Via.refl e25 F26 E29 (Or.inr ⟨(own_at hw 55 rfl), rfl, hnm⟩) (own_at hw 38 rfl) (ty := .int) (by decide) rfl rfl (g := (mkF m 24 #[.val (.ref a), .val (.ref f), .val (.int pn), .val (.int q), .val (.ref g)] [(.int q), (.ref a)])) rfl rfl (hb hby own_d1_24)
  refine own_go st35 ?_
  have Fw35 := F26.same W35
  have F36 := F27.other W35 (Or.inr (slot_ne (Or.inr (own_at hw 58 rfl)) (Or.inr (own_at hw 55 rfl)) (by decide) (t := (.object "java/lang/String")) (t' := .int) (by decide) (by decide)))
  have F37 := F28.other W35 (Or.inr (slot_ne (Or.inr (own_at hw 51 rfl)) (Or.inr (own_at hw 55 rfl)) (by decide) (t := (.object "java/lang/String")) (t' := .int) (by decide) (by decide)))
  have F38 := Fw25.other W35 (Or.inr (slot_ne (Or.inr (own_at hw 53 rfl)) (Or.inr (own_at hw 55 rfl)) (by decide) (t := .int) (t' := .int) (by decide) (by decide)))
  have E39 := E29.wr W35
  have E40 := E30.wr W35
  have E41 := E31.wr W35
  have O42 := O32.wr W35 ga
  have K43 := K33.wr W35 (Or.inl (List.mem_of_getElem? (i := 0) rfl))
  have hk44 := Nat.le_trans hk34 (Keep.of_wr W35).1
  have N35 := Fr.snoc X35 N25 ga
  show own_Fin p.tables e below G (T35.setTop (mkF m 27 #[.val (.ref a), .val (.ref f), .val (.int pn), .val (.int q), .val (.ref g)] []))
  refine own_go (fun _ k => XS.aloadN X35.here hx rfl (hb hby own_d1_27) rfl rfl k) ?_
  show own_Fin p.tables e below G (T35.setTop (mkF m 28 #[.val (.ref a), .val (.ref f), .val (.int pn), .val (.int q), .val (.ref g)] [(.ref a)]))
  refine own_go (fun _ k => XS.aload X35.here hx rfl (hb hby own_d1_28) rfl rfl k) ?_
  show own_Fin p.tables e below G (T35.setTop (mkF m 30 #[.val (.ref a), .val (.ref f), .val (.int pn), .val (.int q), .val (.ref g)] [(.ref g), (.ref a)]))
  obtain ⟨b45, T45, h45, k45, X45, e45, E45, SS45, hkk45, hZ45, hown45, st45⟩ := ldcS X35 hx hZ2 hown2 (own_at hw 56 rfl) (own_sa hw) e35 SS2 hk44 (g := (mkF m 30 #[.val (.ref a), .val (.ref f), .val (.int pn), .val (.int q), .val (.ref g)] [(.ref g), (.ref a)])) rfl (hb hby own_d1_30) (n := 28) (by decide) (by decide) (by decide) (by decide)
  refine own_go st45 ?_
  have F46 := F36.ext E45
  have F47 := F37.ext E45
  have F48 := F38.ext E45
  have F49 := Fw35.ext E45
  have E50 := E39.ext E45
  have E51 := E40.ext E45
  have E52 := E41.ext E45
  have O53 := O42.ext E45
  have K54 := K43.ext E45
  have hk55 := Nat.le_trans hk44 E45.1
  show own_Fin p.tables e below G (T45.setTop (mkF m 32 #[.val (.ref a), .val (.ref f), .val (.int pn), .val (.int q), .val (.ref g)] [(.ref b45), (.ref g), (.ref a)]))
  obtain ⟨_, _, ⟨T56, L56, k56, n56⟩, -, X56, ⟨Lc56, hQ56, l56, y56, z56⟩, st56⟩ := Jvm.LawKit.callS X45 hx (y := (⟨"java/util/Objects", "requireNonNull", "(Ljava/lang/Object;Ljava/lang/String;)Ljava/lang/Object;"⟩ : MethodName)) hown45 (mvT hZ45 (own_at hw 45 rfl)) (mvT hZ45 (own_at hw 46 rfl)) (mvT hZ45 (own_at hw 47 rfl)) (mvT hZ45 (own_at hw 48 rfl)) (by decide) (backOf (W := 1) (own_rnn l Z a0 hw [] g b45 h45 n0 O53) hZ45 (own_at hw 48 rfl) (own_at hw 47 rfl) (by decide) (by decide)) (g := (mkF m 32 #[.val (.ref a), .val (.ref f), .val (.int pn), .val (.int q), .val (.ref g)] [(.ref b45), (.ref g), (.ref a)])) rfl (by rw [hml]; rfl) (argsL := [(.ref g), (.ref b45)]) (rest := [(.ref a)]) (lenOf own_pd0 rfl) rfl (by show 2 * 0 + _ ≤ _; exact Nat.le_of_eq rfl) (hb hby own_d1_32) (fun _ _ => ⟨rfl, e45, (by decide : 4 + 0 ≤ _), (by decide : 52 + 0 ≤ _)⟩)
  dsimp only [Pt.U, Pt.locs, Pt.cells, Pt.slots] at X56 l56 y56 z56 st56 hQ56
  subst l56 y56 z56
  obtain ⟨rfl, N56q, e56⟩ := hQ56
  have N56 := Fr.app N35 N56q
  refine own_go st56 ?_
  show own_Fin p.tables e below G (T56.setTop (mkF m 35 #[.val (.ref a), .val (.ref f), .val (.int pn), .val (.int q), .val (.ref g)] [(.ref g), (.ref a)]))
  obtain ⟨T57, X57, e57, st57⟩ := castY X56 hx hZ45 hown45 (own_at hw 49 rfl) e56 (Ins.self E52) (g := (mkF m 35 #[.val (.ref a), .val (.ref f), .val (.int pn), .val (.int q), .val (.ref g)] [(.ref g), (.ref a)])) rfl rfl (hb hby own_d1_35)
  refine own_go st57 ?_
  show own_Fin p.tables e below G (T57.setTop (mkF m 38 #[.val (.ref a), .val (.ref f), .val (.int pn), .val (.int q), .val (.ref g)] [(.ref g), (.ref a)]))
  obtain ⟨T58, h58, X58, e58, W58, st58⟩ := putF X57 hx hZ45 hown45 (host := "") (Or.inl (own_at hw 57 rfl)) Via.refl e57 F46 E50 (Or.inr ⟨(own_at hw 58 rfl), rfl, hnm⟩) (own_at hw 38 rfl) (ty := (.object "java/lang/String")) (by decide) rfl rfl (g := (mkF m 38 #[.val (.ref a), .val (.ref f), .val (.int pn), .val (.int q), .val (.ref g)] [(.ref g), (.ref a)])) rfl rfl (hb hby own_d1_38)
  refine own_go st58 ?_
  have Fw58 := F46.same W58
  have F59 := F47.other W58 (Or.inr (slot_ne (Or.inr (own_at hw 51 rfl)) (Or.inr (own_at hw 58 rfl)) (by decide) (t := (.object "java/lang/String")) (t' := (.object "java/lang/String")) (by decide) (by decide)))
  have F60 := F48.other W58 (Or.inr (slot_ne (Or.inr (own_at hw 53 rfl)) (Or.inr (own_at hw 58 rfl)) (by decide) (t := .int) (t' := (.object "java/lang/String")) (by decide) (by decide)))
  have F61 := F49.other W58 (Or.inr (slot_ne (Or.inr (own_at hw 55 rfl)) (Or.inr (own_at hw 58 rfl)) (by decide) (t := .int) (t' := (.object "java/lang/String")) (by decide) (by decide)))
  have E62 := E50.wr W58
  have E63 := E51.wr W58
  have E64 := E52.wr W58
  have O65 := O53.wr W58 ga
  have K66 := K54.wr W58 (Or.inl (List.mem_of_getElem? (i := 0) rfl))
  have hk67 := Nat.le_trans hkk45 (Keep.of_wr W58).1
  have N58 := Fr.snoc X58 N56 ga
  show own_Fin p.tables e below G (T58.setTop (mkF m 41 #[.val (.ref a), .val (.ref f), .val (.int pn), .val (.int q), .val (.ref g)] []))
  subst hG
  exact own_r0W (s := s) X58 SS45 (own_hk e58 hk67) hx Bd.returns (hb hby own_d1_41) Bd.notSynchronized (by decide) (by decide) ⟨rfl, N58, (by rw [e58]; exact ⟨K66, E62, F59, F60, F61, Fw58⟩)⟩
theorem own_ef_own_eq0 (m : MethodId) (a1 : Addr)  : entryFrame m #[(.ref a1), .null] 3 = (mkF m 0 #[.val (.ref a1), .val .null, .unset] []) := by first | (simp [entryFrame, mkF, argsToLocals, Value.category]; done) | rfl
theorem own_d2_0 : decode prog_1_method_6_code 0 = .ok (.aload_n 1, 1) := by decide +kernel
theorem own_d2_1 : decode prog_1_method_6_code 1 = .ok (.instanceof 18, 3) := by decide +kernel
theorem own_d2_4 : decode prog_1_method_6_code 4 = .ok (.ifCond .eq 62, 3) := by decide +kernel
theorem own_d2_66 : decode prog_1_method_6_code 66 = .ok (.iconst 0, 1) := by decide +kernel
theorem own_d2_67 : decode prog_1_method_6_code 67 = .ok (.ireturn, 1) := by decide +kernel
def own_Q_own_eq0 (Z : State) (a1 : Addr) (h0 : Heap) (n0 : Nat) (v : Option Value) (h : Heap) (L : List Loc) : Prop := v = some (.int (0 : Int32)) ∧ Fr n0 L ∧ h = h0
set_option maxRecDepth 65536 in
set_option maxHeartbeats 40000000 in
theorem own_eq0 (l : Launch) (Z : State) (a0 : Array Value) (hw : ∀ d ∈ tables_1, d.before a0 Z = true) (ws : List Jvm.Cond) (a1 : Addr) (h0 : Heap) (n0 : Nat) (O0 : Old Z n0 h0) :
    MetFree l (⟨"com/example/tagwright/tagwright/diag/Diagnostic", "equals", "(Ljava/lang/Object;)Z"⟩ : MethodName) (head1 (Jvm.Cond.code (⟨"com/example/tagwright/tagwright/diag/Diagnostic", "equals", "(Ljava/lang/Object;)Z"⟩ : MethodName) prog_1_method_6_code 3 (some .boolean) :: ws) ({ frames := 0, cells := 0, slots := 0, locals := 0 } : Room)) (fun as' U => as' = #[(.ref a1), .null] ∧ Z.Warmed39 U.vm ∧ U.heap = h0) (fun _ _ _ _ _ => True) (fun _ U o U' => ∃ v L, o = .returned v ∧ own_Q_own_eq0 Z a1 h0 n0 v U'.heap L ∧ FrameEnd U o U' L ({ frames := 0, cells := 0, slots := 0, locals := 0 } : Room).cells ({ frames := 0, cells := 0, slots := 0, locals := 0 } : Room).slots) := by
  refine MetFree.of_bodySF (plainFor_of_name own_pn1) hisR ?_
  intro p e s m args below meth c s₁ Bd hml0 hP hK
  obtain ⟨rfl, hZ, hh⟩ := hP
  have hx := Bd.exec
  have hby := Bd.bytes
  have hml : c.maxLocals = 3 := hml0
  have hown : s.vm.findClass "com/example/tagwright/tagwright/diag/Diagnostic" = some m.cls := findClass_of_methodNamed Bd.named
  have hnm := (name_of_methodNamed Bd.named Bd.method).1
  have X0 : Stand p l e ({ frames := 0, cells := 0, slots := 0, locals := 0 } : Room) s m #[(.ref a1), .null] below meth c s₁ [] 0 0 := Stand.of_body Bd
  have e0 : s₁.heap = h0 := by rw [← hh, Bd.state]; rfl
  have N0 := Fr.nil n0
  show own_Fin p.tables e below (fun s₂ o => ∃ v L, o = .returned v ∧ own_Q_own_eq0 Z a1 h0 n0 v s₂.heap L ∧ FrameEnd s o s₂ L ({ frames := 0, cells := 0, slots := 0, locals := 0 } : Room).cells ({ frames := 0, cells := 0, slots := 0, locals := 0 } : Room).slots) _
  generalize hG : (fun (s₂ : State) (o : Outcome) => ∃ v L, o = Outcome.returned v ∧ own_Q_own_eq0 Z a1 h0 n0 v s₂.heap L ∧ FrameEnd s o s₂ L ({ frames := 0, cells := 0, slots := 0, locals := 0 } : Room).cells ({ frames := 0, cells := 0, slots := 0, locals := 0 } : Room).slots) = G
  refine own_go (fun _ k => castTop (own_ef_own_eq0 m a1) k) ?_
  show own_Fin p.tables e below G (s₁.setTop (mkF m 0 #[.val (.ref a1), .val .null, .unset] []))
  refine own_go (fun _ k => XS.aloadN X0.here hx rfl (hb hby own_d2_0) rfl rfl k) ?_
  show own_Fin p.tables e below G (s₁.setTop (mkF m 1 #[.val (.ref a1), .val .null, .unset] [.null]))
  refine own_go (fun _ k => X0.instanceofNull hx (g := (mkF m 1 #[.val (.ref a1), .val .null, .unset] [.null])) rfl rfl (hb hby own_d2_1) _ k) ?_
  show own_Fin p.tables e below G (s₁.setTop (mkF m 4 #[.val (.ref a1), .val .null, .unset] [(.int (0 : Int32))]))
  refine own_go (fun _ k => XS.ifYes X0.here hx rfl (pc0 := 4) (pc' := 66) rfl (hb hby own_d2_4) rfl (Jvm.Free.XT.i0_eq_t (by decide)) (by decide) (by decide) k) ?_
  show own_Fin p.tables e below G (s₁.setTop (mkF m 66 #[.val (.ref a1), .val .null, .unset] []))
  refine own_go (fun _ k => XS.iconst X0.here hx rfl (hb hby own_d2_66)  k) ?_
  show own_Fin p.tables e below G (s₁.setTop (mkF m 67 #[.val (.ref a1), .val .null, .unset] [(.int (0 : Int32))]))
  subst hG
  exact own_rv X0 hx (t := .boolean) Bd.returns rfl (Or.inl ⟨rfl, Or.inr (Or.inl rfl), _, rfl⟩) (hb hby own_d2_67) Bd.notSynchronized (by decide) (by decide) ⟨rfl, N0, e0⟩
theorem own_ef_own_eqIn (m : MethodId) (a1 : Addr) (a2 : Addr)  : entryFrame m #[(.ref a1), (.ref a2)] 3 = (mkF m 0 #[.val (.ref a1), .val (.ref a2), .unset] []) := by first | (simp [entryFrame, mkF, argsToLocals, Value.category]; done) | rfl
theorem own_not_java_lang_Integer_com_example_tagwright_tagwright_diag_Diagnostic {Z : State} {a0 : Array Value} (hw : ∀ d ∈ tables_1, d.before a0 Z = true) : ∃ c t, Z.vm.findClass "java/lang/Integer" = some c ∧ Z.vm.findClass "com/example/tagwright/tagwright/diag/Diagnostic" = some t ∧ Z.vm.assignable c t = false := own_noCast (X := "java/lang/Integer") (t := ["java/lang/Number", "java/lang/Object"]) (Y := "com/example/tagwright/tagwright/diag/Diagnostic") (fun w h => hw w (by revert h; simp only [Jvm.Cond.chainWords, List.mem_cons, List.not_mem_nil, or_false]; intro h; rcases h with rfl | rfl | rfl; exact List.mem_of_getElem? (i := 96) rfl; exact List.mem_of_getElem? (i := 97) rfl; exact List.mem_of_getElem? (i := 98) rfl)) (own_at hw 38 rfl) (by decide)
def own_Q_own_eqIn (Z : State) (a1 : Addr) (a2 : Addr) (h0 : Heap) (n0 : Nat) (v : Option Value) (h : Heap) (L : List Loc) : Prop := v = some (.int (0 : Int32)) ∧ Fr n0 L ∧ h = h0
set_option maxRecDepth 65536 in
set_option maxHeartbeats 40000000 in
theorem own_eqIn (l : Launch) (Z : State) (a0 : Array Value) (hw : ∀ d ∈ tables_1, d.before a0 Z = true) (ws : List Jvm.Cond) (a1 : Addr) (a2 : Addr) (h0 : Heap) (n0 : Nat) (O0 : Old Z n0 h0) (E2 : Exa Z h0 a2 "java/lang/Integer") :
    MetFree l (⟨"com/example/tagwright/tagwright/diag/Diagnostic", "equals", "(Ljava/lang/Object;)Z"⟩ : MethodName) (head1 (Jvm.Cond.code (⟨"com/example/tagwright/tagwright/diag/Diagnostic", "equals", "(Ljava/lang/Object;)Z"⟩ : MethodName) prog_1_method_6_code 3 (some .boolean) :: ws) ({ frames := 0, cells := 0, slots := 0, locals := 0 } : Room)) (fun as' U => as' = #[(.ref a1), (.ref a2)] ∧ Z.Warmed39 U.vm ∧ U.heap = h0) (fun _ _ _ _ _ => True) (fun _ U o U' => ∃ v L, o = .returned v ∧ own_Q_own_eqIn Z a1 a2 h0 n0 v U'.heap L ∧ FrameEnd U o U' L ({ frames := 0, cells := 0, slots := 0, locals := 0 } : Room).cells ({ frames := 0, cells := 0, slots := 0, locals := 0 } : Room).slots) := by
  refine MetFree.of_bodySF (plainFor_of_name own_pn1) hisR ?_
  intro p e s m args below meth c s₁ Bd hml0 hP hK
  obtain ⟨rfl, hZ, hh⟩ := hP
  have hx := Bd.exec
  have hby := Bd.bytes
  have hml : c.maxLocals = 3 := hml0
  have hown : s.vm.findClass "com/example/tagwright/tagwright/diag/Diagnostic" = some m.cls := findClass_of_methodNamed Bd.named
  have hnm := (name_of_methodNamed Bd.named Bd.method).1
  have X0 : Stand p l e ({ frames := 0, cells := 0, slots := 0, locals := 0 } : Room) s m #[(.ref a1), (.ref a2)] below meth c s₁ [] 0 0 := Stand.of_body Bd
  have e0 : s₁.heap = h0 := by rw [← hh, Bd.state]; rfl
  have N0 := Fr.nil n0
  show own_Fin p.tables e below (fun s₂ o => ∃ v L, o = .returned v ∧ own_Q_own_eqIn Z a1 a2 h0 n0 v s₂.heap L ∧ FrameEnd s o s₂ L ({ frames := 0, cells := 0, slots := 0, locals := 0 } : Room).cells ({ frames := 0, cells := 0, slots := 0, locals := 0 } : Room).slots) _
  generalize hG : (fun (s₂ : State) (o : Outcome) => ∃ v L, o = Outcome.returned v ∧ own_Q_own_eqIn Z a1 a2 h0 n0 v s₂.heap L ∧ FrameEnd s o s₂ L ({ frames := 0, cells := 0, slots := 0, locals := 0 } : Room).cells ({ frames := 0, cells := 0, slots := 0, locals := 0 } : Room).slots) = G
  refine own_go (fun _ k => castTop (own_ef_own_eqIn m a1 a2) k) ?_
  show own_Fin p.tables e below G (s₁.setTop (mkF m 0 #[.val (.ref a1), .val (.ref a2), .unset] []))
  refine own_go (fun _ k => XS.aloadN X0.here hx rfl (hb hby own_d2_0) rfl rfl k) ?_
  show own_Fin p.tables e below G (s₁.setTop (mkF m 1 #[.val (.ref a1), .val (.ref a2), .unset] [(.ref a2)]))
  obtain ⟨T68, X68, e68, st68⟩ := instNo X0 hx hZ hown (own_at hw 74 rfl) e0 E2 (own_not_java_lang_Integer_com_example_tagwright_tagwright_diag_Diagnostic hw) (g := (mkF m 1 #[.val (.ref a1), .val (.ref a2), .unset] [(.ref a2)])) rfl rfl (hb hby own_d2_1)
  refine own_go st68 ?_
  show own_Fin p.tables e below G (T68.setTop (mkF m 4 #[.val (.ref a1), .val (.ref a2), .unset] [(.int (0 : Int32))]))
  refine own_go (fun _ k => XS.ifYes X68.here hx rfl (pc0 := 4) (pc' := 66) rfl (hb hby own_d2_4) rfl (Jvm.Free.XT.i0_eq_t (by decide)) (by decide) (by decide) k) ?_
  show own_Fin p.tables e below G (T68.setTop (mkF m 66 #[.val (.ref a1), .val (.ref a2), .unset] []))
  refine own_go (fun _ k => XS.iconst X68.here hx rfl (hb hby own_d2_66)  k) ?_
  show own_Fin p.tables e below G (T68.setTop (mkF m 67 #[.val (.ref a1), .val (.ref a2), .unset] [(.int (0 : Int32))]))
  subst hG
  exact own_rv X68 hx (t := .boolean) Bd.returns rfl (Or.inl ⟨rfl, Or.inr (Or.inl rfl), _, rfl⟩) (hb hby own_d2_67) Bd.notSynchronized (by decide) (by decide) ⟨rfl, N0, e68⟩
theorem own_ef_own_eqD (m : MethodId) (a1 : Addr) (a2 : Addr)  : entryFrame m #[(.ref a1), (.ref a2)] 3 = (mkF m 0 #[.val (.ref a1), .val (.ref a2), .unset] []) := by first | (simp [entryFrame, mkF, argsToLocals, Value.category]; done) | rfl
theorem own_d2_7 : decode prog_1_method_6_code 7 = .ok (.aload_n 1, 1) := by decide +kernel
theorem own_d2_8 : decode prog_1_method_6_code 8 = .ok (.checkcast 18, 3) := by decide +kernel
theorem own_d2_11 : decode prog_1_method_6_code 11 = .ok (.astore_n 2, 1) := by decide +kernel
theorem own_d2_12 : decode prog_1_method_6_code 12 = .ok (.aload_n 2, 1) := by decide +kernel
theorem own_d2_13 : decode prog_1_method_6_code 13 = .ok (.getfield 17, 3) := by decide +kernel
theorem own_d2_16 : decode prog_1_method_6_code 16 = .ok (.aload_n 0, 1) := by decide +kernel
theorem own_d2_17 : decode prog_1_method_6_code 17 = .ok (.getfield 17, 3) := by decide +kernel
theorem own_pd1 : parseMethodDescriptor "(Ljava/lang/Object;)Z" = some ⟨[(.object "java/lang/Object")], some .boolean⟩ := by decide +kernel
theorem own_d2_20 : decode prog_1_method_6_code 20 = .ok (.invokevirtual 33, 3) := by decide +kernel
theorem own_d2_23 : decode prog_1_method_6_code 23 = .ok (.ifCond .eq 43, 3) := by decide +kernel
theorem own_d2_26 : decode prog_1_method_6_code 26 = .ok (.aload_n 2, 1) := by decide +kernel
theorem own_d2_27 : decode prog_1_method_6_code 27 = .ok (.getfield 22, 3) := by decide +kernel
theorem own_d2_30 : decode prog_1_method_6_code 30 = .ok (.aload_n 0, 1) := by decide +kernel
theorem own_d2_31 : decode prog_1_method_6_code 31 = .ok (.getfield 22, 3) := by decide +kernel
theorem own_d2_34 : decode prog_1_method_6_code 34 = .ok (.if_icmp .ne 32, 3) := by decide +kernel
theorem own_d2_37 : decode prog_1_method_6_code 37 = .ok (.aload_n 2, 1) := by decide +kernel
theorem own_d2_38 : decode prog_1_method_6_code 38 = .ok (.getfield 26, 3) := by decide +kernel
theorem own_d2_41 : decode prog_1_method_6_code 41 = .ok (.aload_n 0, 1) := by decide +kernel
theorem own_d2_42 : decode prog_1_method_6_code 42 = .ok (.getfield 26, 3) := by decide +kernel
theorem own_d2_45 : decode prog_1_method_6_code 45 = .ok (.if_icmp .ne 21, 3) := by decide +kernel
theorem own_d2_48 : decode prog_1_method_6_code 48 = .ok (.aload_n 2, 1) := by decide +kernel
theorem own_d2_49 : decode prog_1_method_6_code 49 = .ok (.getfield 31, 3) := by decide +kernel
theorem own_d2_52 : decode prog_1_method_6_code 52 = .ok (.aload_n 0, 1) := by decide +kernel
theorem own_d2_53 : decode prog_1_method_6_code 53 = .ok (.getfield 31, 3) := by decide +kernel
theorem own_d2_56 : decode prog_1_method_6_code 56 = .ok (.invokevirtual 33, 3) := by decide +kernel
theorem own_d2_59 : decode prog_1_method_6_code 59 = .ok (.ifCond .eq 7, 3) := by decide +kernel
theorem own_d2_62 : decode prog_1_method_6_code 62 = .ok (.iconst 1, 1) := by decide +kernel
theorem own_d2_63 : decode prog_1_method_6_code 63 = .ok (.goto 4, 3) := by decide +kernel
def own_Q_own_eqD (Z : State) (a1 : Addr) (a2 : Addr) (f1 : Addr) (p1 : Int32) (q1 : Int32) (g1 : Addr) (y1 : List Int32) (z1 : List Int32) (f2 : Addr) (p2 : Int32) (q2 : Int32) (g2 : Addr) (y2 : List Int32) (z2 : List Int32) (cs : Int32) (h0 : Heap) (n0 : Nat) (v : Option Value) (h : Heap) (L : List Loc) : Prop := v = some (.int (own_bi (decide (y2 = y1) && (decide (p2 = p1) && (decide (q2 = q1) && decide (z2 = z1)))))) ∧ Fr n0 L ∧ h = h0
set_option maxRecDepth 65536 in
set_option maxHeartbeats 40000000 in
theorem own_eqD (l : Launch) (Z : State) (a0 : Array Value) (hw : ∀ d ∈ tables_1, d.before a0 Z = true) (ws : List Jvm.Cond) (a1 : Addr) (a2 : Addr) (f1 : Addr) (p1 : Int32) (q1 : Int32) (g1 : Addr) (y1 : List Int32) (z1 : List Int32) (f2 : Addr) (p2 : Int32) (q2 : Int32) (g2 : Addr) (y2 : List Int32) (z2 : List Int32) (cs : Int32) (h0 : Heap) (n0 : Nat) (O0 : Old Z n0 h0) (E2 : Exa Z h0 a2 "com/example/tagwright/tagwright/diag/Diagnostic") (Ffile1 : Fld Z h0 a1 "com/example/tagwright/tagwright/diag/Diagnostic" "file" "Ljava/lang/String;" (.ref f1)) (Fline1 : Fld Z h0 a1 "com/example/tagwright/tagwright/diag/Diagnostic" "line" "I" (.int p1)) (Fcolumn1 : Fld Z h0 a1 "com/example/tagwright/tagwright/diag/Diagnostic" "column" "I" (.int q1)) (Fmessage1 : Fld Z h0 a1 "com/example/tagwright/tagwright/diag/Diagnostic" "message" "Ljava/lang/String;" (.ref g1)) (Sf1 : own_S Z h0 f1 y1) (Sg1 : own_S Z h0 g1 z1) (Ffile2 : Fld Z h0 a2 "com/example/tagwright/tagwright/diag/Diagnostic" "file" "Ljava/lang/String;" (.ref f2)) (Fline2 : Fld Z h0 a2 "com/example/tagwright/tagwright/diag/Diagnostic" "line" "I" (.int p2)) (Fcolumn2 : Fld Z h0 a2 "com/example/tagwright/tagwright/diag/Diagnostic" "column" "I" (.int q2)) (Fmessage2 : Fld Z h0 a2 "com/example/tagwright/tagwright/diag/Diagnostic" "message" "Ljava/lang/String;" (.ref g2)) (Sf2 : own_S Z h0 f2 y2) (Sg2 : own_S Z h0 g2 z2) (SCS : Sta Z Z.heap "java/lang/String" "COMPACT_STRINGS" "Z" (.int cs)) (hcs : ¬ (cs = 0)) :
    MetFree l (⟨"com/example/tagwright/tagwright/diag/Diagnostic", "equals", "(Ljava/lang/Object;)Z"⟩ : MethodName) (head1 (Jvm.Cond.code (⟨"com/example/tagwright/tagwright/diag/Diagnostic", "equals", "(Ljava/lang/Object;)Z"⟩ : MethodName) prog_1_method_6_code 3 (some .boolean) :: ws) ({ frames := 3, cells := 0, slots := 0, locals := 60 } : Room)) (fun as' U => as' = #[(.ref a1), (.ref a2)] ∧ Z.Warmed39 U.vm ∧ U.heap = h0) (fun _ _ _ _ _ => True) (fun _ U o U' => ∃ v L, o = .returned v ∧ own_Q_own_eqD Z a1 a2 f1 p1 q1 g1 y1 z1 f2 p2 q2 g2 y2 z2 cs h0 n0 v U'.heap L ∧ FrameEnd U o U' L ({ frames := 3, cells := 0, slots := 0, locals := 60 } : Room).cells ({ frames := 3, cells := 0, slots := 0, locals := 60 } : Room).slots) := by
  refine MetFree.of_bodySF (plainFor_of_name own_pn1) hisR ?_
  intro p e s m args below meth c s₁ Bd hml0 hP hK
  obtain ⟨rfl, hZ, hh⟩ := hP
  have hx := Bd.exec
  have hby := Bd.bytes
  have hml : c.maxLocals = 3 := hml0
  have hown : s.vm.findClass "com/example/tagwright/tagwright/diag/Diagnostic" = some m.cls := findClass_of_methodNamed Bd.named
  have hnm := (name_of_methodNamed Bd.named Bd.method).1
  have X0 : Stand p l e ({ frames := 3, cells := 0, slots := 0, locals := 60 } : Room) s m #[(.ref a1), (.ref a2)] below meth c s₁ [] 0 0 := Stand.of_body Bd
  have e0 : s₁.heap = h0 := by rw [← hh, Bd.state]; rfl
  have N0 := Fr.nil n0
  show own_Fin p.tables e below (fun s₂ o => ∃ v L, o = .returned v ∧ own_Q_own_eqD Z a1 a2 f1 p1 q1 g1 y1 z1 f2 p2 q2 g2 y2 z2 cs h0 n0 v s₂.heap L ∧ FrameEnd s o s₂ L ({ frames := 3, cells := 0, slots := 0, locals := 60 } : Room).cells ({ frames := 3, cells := 0, slots := 0, locals := 60 } : Room).slots) _
  generalize hG : (fun (s₂ : State) (o : Outcome) => ∃ v L, o = Outcome.returned v ∧ own_Q_own_eqD Z a1 a2 f1 p1 q1 g1 y1 z1 f2 p2 q2 g2 y2 z2 cs h0 n0 v s₂.heap L ∧ FrameEnd s o s₂ L ({ frames := 3, cells := 0, slots := 0, locals := 60 } : Room).cells ({ frames := 3, cells := 0, slots := 0, locals := 60 } : Room).slots) = G
  refine own_go (fun _ k => castTop (own_ef_own_eqD m a1 a2) k) ?_
  show own_Fin p.tables e below G (s₁.setTop (mkF m 0 #[.val (.ref a1), .val (.ref a2), .unset] []))
  refine own_go (fun _ k => XS.aloadN X0.here hx rfl (hb hby own_d2_0) rfl rfl k) ?_
  show own_Fin p.tables e below G (s₁.setTop (mkF m 1 #[.val (.ref a1), .val (.ref a2), .unset] [(.ref a2)]))
  obtain ⟨T69, X69, e69, st69⟩ := instY X0 hx hZ hown (own_at hw 74 rfl) e0 (Ins.self E2) (g := (mkF m 1 #[.val (.ref a1), .val (.ref a2), .unset] [(.ref a2)])) rfl rfl (hb hby own_d2_1)
  refine own_go st69 ?_
  show own_Fin p.tables e below G (T69.setTop (mkF m 4 #[.val (.ref a1), .val (.ref a2), .unset] [(.int (1 : Int32))]))
  refine own_go (fun _ k => XS.ifNo X69.here hx rfl (hb hby own_d2_4) rfl (Jvm.Free.XT.i0_eq_f (by decide)) k) ?_
  show own_Fin p.tables e below G (T69.setTop (mkF m 7 #[.val (.ref a1), .val (.ref a2), .unset] []))
  refine own_go (fun _ k => XS.aloadN X69.here hx rfl (hb hby own_d2_7) rfl rfl k) ?_
  show own_Fin p.tables e below G (T69.setTop (mkF m 8 #[.val (.ref a1), .val (.ref a2), .unset] [(.ref a2)]))
  obtain ⟨T70, X70, e70, st70⟩ := castY X69 hx hZ hown (own_at hw 74 rfl) e69 (Ins.self E2) (g := (mkF m 8 #[.val (.ref a1), .val (.ref a2), .unset] [(.ref a2)])) rfl rfl (hb hby own_d2_8)
  refine own_go st70 ?_
  show own_Fin p.tables e below G (T70.setTop (mkF m 11 #[.val (.ref a1), .val (.ref a2), .unset] [(.ref a2)]))
  refine own_go (fun _ k => XS.astoreN X70.here hx rfl (hb hby own_d2_11) rfl rfl (l' := #[.val (.ref a1), .val (.ref a2), .val (.ref a2)]) rfl k) ?_
  show own_Fin p.tables e below G (T70.setTop (mkF m 12 #[.val (.ref a1), .val (.ref a2), .val (.ref a2)] []))
  refine own_go (fun _ k => XS.aloadN X70.here hx rfl (hb hby own_d2_12) rfl rfl k) ?_
  show own_Fin p.tables e below G (T70.setTop (mkF m 13 #[.val (.ref a1), .val (.ref a2), .val (.ref a2)] [(.ref a2)]))
  obtain ⟨T71, X71, e71, st71⟩ := getF X70 hx hZ hown (host := "") (Or.inl (own_at hw 50 rfl)) Via.refl e70 Ffile2 (g := (mkF m 13 #[.val (.ref a1), .val (.ref a2), .val (.ref a2)] [(.ref a2)])) rfl rfl (hb hby own_d2_13)
  refine own_go st71 ?_
  show own_Fin p.tables e below G (T71.setTop (mkF m 16 #[.val (.ref a1), .val (.ref a2), .val (.ref a2)] [(.ref f2)]))
  refine own_go (fun _ k => XS.aloadN X71.here hx rfl (hb hby own_d2_16) rfl rfl k) ?_
  show own_Fin p.tables e below G (T71.setTop (mkF m 17 #[.val (.ref a1), .val (.ref a2), .val (.ref a2)] [(.ref a1), (.ref f2)]))
  obtain ⟨T72, X72, e72, st72⟩ := getF X71 hx hZ hown (host := "") (Or.inl (own_at hw 50 rfl)) Via.refl e71 Ffile1 (g := (mkF m 17 #[.val (.ref a1), .val (.ref a2), .val (.ref a2)] [(.ref a1), (.ref f2)])) rfl rfl (hb hby own_d2_17)
  refine own_go st72 ?_
  show own_Fin p.tables e below G (T72.setTop (mkF m 20 #[.val (.ref a1), .val (.ref a2), .val (.ref a2)] [(.ref f1), (.ref f2)]))
  obtain ⟨tx73, kbx73, Ex73, Cx73, Vx73, Kx73, hpx73, hlx73⟩ := Sf2
  obtain ⟨ty73, kby73, Ey73, Cy73, Vy73, Ky73, hpy73, hly73⟩ := Sf1
  obtain ⟨cq74, kq74, q74a, q74b, q74c⟩ := isOf (s := s) hZ e72 Ex73
  obtain ⟨_, _, ⟨T74, L74, k74, n74⟩, -, X74, ⟨Lc74, hQ74, l74, y74, z74⟩, st74⟩ := X72.virtualBack hx (y := (⟨"java/lang/String", "equals", "(Ljava/lang/Object;)Z"⟩ : MethodName)) (z := (⟨"java/lang/String", "equals", "(Ljava/lang/Object;)Z"⟩ : MethodName)) hown (mvT hZ (own_at hw 76 rfl)) (mvT hZ (own_at hw 60 rfl)) (notFace_of_selects (args := #[]) (mvT hZ (own_at hw 62 rfl))) (mvT hZ (own_at hw 62 rfl)) (mvT hZ (own_at hw 61 rfl)) (by decide) (StrChars.Road.eqW (R := ({ frames := 3, cells := 0, slots := 0, locals := 60 } : Room)) (s := s) (W := 0) hZ (own_weq hw) (kI := 4) (own_at hw 5 rfl) Ex73 Vx73 Cx73 Kx73 (StrChars.Road.codOf rfl fun c hc => (hpx73 c hc).2) (own_up hpx73) (Nat.le_trans hlx73 (by decide)) Ey73 Vy73 Cy73 Ky73 (StrChars.Road.codOf rfl fun c hc => (hpy73 c hc).2) (own_up hpy73) (Nat.le_trans hly73 (by decide)) (SCS.ext O0.2) hcs (by decide) (by decide)) q74a q74c (g := (mkF m 20 #[.val (.ref a1), .val (.ref a2), .val (.ref a2)] [(.ref f1), (.ref f2)])) rfl (by rw [hml]; rfl) (Steps.refl _) (argsL := [(.ref f1)]) (rest := []) (lenOf own_pd1 rfl) rfl (by show 2 * 0 + _ ≤ _; exact Nat.le_of_eq rfl) (hb hby own_d2_20) (fun _ _ => ⟨rfl, e72, (by decide : 0 + 0 ≤ _), (by decide : 0 + 0 ≤ _)⟩)
  dsimp only [Pt.U, Pt.locs, Pt.cells, Pt.slots] at X74 l74 y74 z74 st74 hQ74
  subst l74 y74 z74
  obtain ⟨hv74, rfl, e74⟩ := hQ74
  obtain rfl := own_eqv hv74
  have N74 := Fr.app N0 (Fr.nil n0)
  refine own_go (fun _ k => st74.trans k) ?_
  show own_Fin p.tables e below G (T74.setTop (mkF m 23 #[.val (.ref a1), .val (.ref a2), .val (.ref a2)] [(.int (own_bi (decide (y2 = y1))))]))
  rcases own_tf (decide (y2 = y1)) with hc23 | hc23
  · refine own_go (fun _ k => XS.ifNo X74.here hx rfl (hb hby own_d2_23) rfl (Jvm.Free.XT.i0_eq_f (own_bi1 hc23)) k) ?_
    show own_Fin p.tables e below G (T74.setTop (mkF m 26 #[.val (.ref a1), .val (.ref a2), .val (.ref a2)] []))
    refine own_go (fun _ k => XS.aloadN X74.here hx rfl (hb hby own_d2_26) rfl rfl k) ?_
    show own_Fin p.tables e below G (T74.setTop (mkF m 27 #[.val (.ref a1), .val (.ref a2), .val (.ref a2)] [(.ref a2)]))
    obtain ⟨T75, X75, e75, st75⟩ := getF X74 hx hZ hown (host := "") (Or.inl (own_at hw 52 rfl)) Via.refl e74 Fline2 (g := (mkF m 27 #[.val (.ref a1), .val (.ref a2), .val (.ref a2)] [(.ref a2)])) rfl rfl (hb hby own_d2_27)
    refine own_go st75 ?_
    show own_Fin p.tables e below G (T75.setTop (mkF m 30 #[.val (.ref a1), .val (.ref a2), .val (.ref a2)] [(.int p2)]))
    refine own_go (fun _ k => XS.aloadN X75.here hx rfl (hb hby own_d2_30) rfl rfl k) ?_
    show own_Fin p.tables e below G (T75.setTop (mkF m 31 #[.val (.ref a1), .val (.ref a2), .val (.ref a2)] [(.ref a1), (.int p2)]))
    obtain ⟨T76, X76, e76, st76⟩ := getF X75 hx hZ hown (host := "") (Or.inl (own_at hw 52 rfl)) Via.refl e75 Fline1 (g := (mkF m 31 #[.val (.ref a1), .val (.ref a2), .val (.ref a2)] [(.ref a1), (.int p2)])) rfl rfl (hb hby own_d2_31)
    refine own_go st76 ?_
    show own_Fin p.tables e below G (T76.setTop (mkF m 34 #[.val (.ref a1), .val (.ref a2), .val (.ref a2)] [(.int p1), (.int p2)]))
    by_cases hc34 : p2 = p1
    · refine own_go (fun _ k => XS.icmpNo X76.here hx rfl (hb hby own_d2_34) rfl (Jvm.Free.XT.ii_ne_f hc34) k) ?_
      show own_Fin p.tables e below G (T76.setTop (mkF m 37 #[.val (.ref a1), .val (.ref a2), .val (.ref a2)] []))
      refine own_go (fun _ k => XS.aloadN X76.here hx rfl (hb hby own_d2_37) rfl rfl k) ?_
      show own_Fin p.tables e below G (T76.setTop (mkF m 38 #[.val (.ref a1), .val (.ref a2), .val (.ref a2)] [(.ref a2)]))
      obtain ⟨T77, X77, e77, st77⟩ := getF X76 hx hZ hown (host := "") (Or.inl (own_at hw 54 rfl)) Via.refl e76 Fcolumn2 (g := (mkF m 38 #[.val (.ref a1), .val (.ref a2), .val (.ref a2)] [(.ref a2)])) rfl rfl (hb hby own_d2_38)
      refine own_go st77 ?_
      show own_Fin p.tables e below G (T77.setTop (mkF m 41 #[.val (.ref a1), .val (.ref a2), .val (.ref a2)] [(.int q2)]))
      refine own_go (fun _ k => XS.aloadN X77.here hx rfl (hb hby own_d2_41) rfl rfl k) ?_
      show own_Fin p.tables e below G (T77.setTop (mkF m 42 #[.val (.ref a1), .val (.ref a2), .val (.ref a2)] [(.ref a1), (.int q2)]))
      obtain ⟨T78, X78, e78, st78⟩ := getF X77 hx hZ hown (host := "") (Or.inl (own_at hw 54 rfl)) Via.refl e77 Fcolumn1 (g := (mkF m 42 #[.val (.ref a1), .val (.ref a2), .val (.ref a2)] [(.ref a1), (.int q2)])) rfl rfl (hb hby own_d2_42)
      refine own_go st78 ?_
      show own_Fin p.tables e below G (T78.setTop (mkF m 45 #[.val (.ref a1), .val (.ref a2), .val (.ref a2)] [(.int q1), (.int q2)]))
      by_cases hc45 : q2 = q1
      · refine own_go (fun _ k => XS.icmpNo X78.here hx rfl (hb hby own_d2_45) rfl (Jvm.Free.XT.ii_ne_f hc45) k) ?_
        show own_Fin p.tables e below G (T78.setTop (mkF m 48 #[.val (.ref a1), .val (.ref a2), .val (.ref a2)] []))
        refine own_go (fun _ k => XS.aloadN X78.here hx rfl (hb hby own_d2_48) rfl rfl k) ?_
        show own_Fin p.tables e below G (T78.setTop (mkF m 49 #[.val (.ref a1), .val (.ref a2), .val (.ref a2)] [(.ref a2)]))
        obtain ⟨T79, X79, e79, st79⟩ := getF X78 hx hZ hown (host := "") (Or.inl (own_at hw 57 rfl)) Via.refl e78 Fmessage2 (g := (mkF m 49 #[.val (.ref a1), .val (.ref a2), .val (.ref a2)] [(.ref a2)])) rfl rfl (hb hby own_d2_49)
        refine own_go st79 ?_
        show own_Fin p.tables e below G (T79.setTop (mkF m 52 #[.val (.ref a1), .val (.ref a2), .val (.ref a2)] [(.ref g2)]))
        refine own_go (fun _ k => XS.aloadN X79.here hx rfl (hb hby own_d2_52) rfl rfl k) ?_
        show own_Fin p.tables e below G (T79.setTop (mkF m 53 #[.val (.ref a1), .val (.ref a2), .val (.ref a2)] [(.ref a1), (.ref g2)]))
        obtain ⟨T80, X80, e80, st80⟩ := getF X79 hx hZ hown (host := "") (Or.inl (own_at hw 57 rfl)) Via.refl e79 Fmessage1 (g := (mkF m 53 #[.val (.ref a1), .val (.ref a2), .val (.ref a2)] [(.ref a1), (.ref g2)])) rfl rfl (hb hby own_d2_53)
        refine own_go st80 ?_
        show own_Fin p.tables e below G (T80.setTop (mkF m 56 #[.val (.ref a1), .val (.ref a2), .val (.ref a2)] [(.ref g1), (.ref g2)]))
        obtain ⟨tx81, kbx81, Ex81, Cx81, Vx81, Kx81, hpx81, hlx81⟩ := Sg2
        obtain ⟨ty81, kby81, Ey81, Cy81, Vy81, Ky81, hpy81, hly81⟩ := Sg1
        obtain ⟨cq82, kq82, q82a, q82b, q82c⟩ := isOf (s := s) hZ e80 Ex81
        obtain ⟨_, _, ⟨T82, L82, k82, n82⟩, -, X82, ⟨Lc82, hQ82, l82, y82, z82⟩, st82⟩ := X80.virtualBack hx (y := (⟨"java/lang/String", "equals", "(Ljava/lang/Object;)Z"⟩ : MethodName)) (z := (⟨"java/lang/String", "equals", "(Ljava/lang/Object;)Z"⟩ : MethodName)) hown (mvT hZ (own_at hw 76 rfl)) (mvT hZ (own_at hw 60 rfl)) (notFace_of_selects (args := #[]) (mvT hZ (own_at hw 62 rfl))) (mvT hZ (own_at hw 62 rfl)) (mvT hZ (own_at hw 61 rfl)) (by decide) (StrChars.Road.eqW (R := ({ frames := 3, cells := 0, slots := 0, locals := 60 } : Room)) (s := s) (W := 0) hZ (own_weq hw) (kI := 4) (own_at hw 5 rfl) Ex81 Vx81 Cx81 Kx81 (StrChars.Road.codOf rfl fun c hc => (hpx81 c hc).2) (own_up hpx81) (Nat.le_trans hlx81 (by decide)) Ey81 Vy81 Cy81 Ky81 (StrChars.Road.codOf rfl fun c hc => (hpy81 c hc).2) (own_up hpy81) (Nat.le_trans hly81 (by decide)) (SCS.ext O0.2) hcs (by decide) (by decide)) q82a q82c (g := (mkF m 56 #[.val (.ref a1), .val (.ref a2), .val (.ref a2)] [(.ref g1), (.ref g2)])) rfl (by rw [hml]; rfl) (Steps.refl _) (argsL := [(.ref g1)]) (rest := []) (lenOf own_pd1 rfl) rfl (by show 2 * 0 + _ ≤ _; exact Nat.le_of_eq rfl) (hb hby own_d2_56) (fun _ _ => ⟨rfl, e80, (by decide : 0 + 0 ≤ _), (by decide : 0 + 0 ≤ _)⟩)
        dsimp only [Pt.U, Pt.locs, Pt.cells, Pt.slots] at X82 l82 y82 z82 st82 hQ82
        subst l82 y82 z82
        obtain ⟨hv82, rfl, e82⟩ := hQ82
        obtain rfl := own_eqv hv82
        have N82 := Fr.app N74 (Fr.nil n0)
        refine own_go (fun _ k => st82.trans k) ?_
        show own_Fin p.tables e below G (T82.setTop (mkF m 59 #[.val (.ref a1), .val (.ref a2), .val (.ref a2)] [(.int (own_bi (decide (z2 = z1))))]))
        rcases own_tf (decide (z2 = z1)) with hc59 | hc59
        · refine own_go (fun _ k => XS.ifNo X82.here hx rfl (hb hby own_d2_59) rfl (Jvm.Free.XT.i0_eq_f (own_bi1 hc59)) k) ?_
          show own_Fin p.tables e below G (T82.setTop (mkF m 62 #[.val (.ref a1), .val (.ref a2), .val (.ref a2)] []))
          refine own_go (fun _ k => XS.iconst X82.here hx rfl (hb hby own_d2_62)  k) ?_
          show own_Fin p.tables e below G (T82.setTop (mkF m 63 #[.val (.ref a1), .val (.ref a2), .val (.ref a2)] [(.int (1 : Int32))]))
          refine own_go (fun _ k => XS.goto X82.here hx rfl (pc0 := 63) (pc' := 67) rfl (hb hby own_d2_63) (by decide) (by decide) k) ?_
          show own_Fin p.tables e below G (T82.setTop (mkF m 67 #[.val (.ref a1), .val (.ref a2), .val (.ref a2)] [(.int (1 : Int32))]))
          subst hG
          exact own_rv X82 hx (t := .boolean) Bd.returns rfl (Or.inl ⟨rfl, Or.inr (Or.inl rfl), _, rfl⟩) (hb hby own_d2_67) Bd.notSynchronized (by decide) (by decide) ⟨by simp [own_bi, of_decide_eq_true hc23, hc34, hc45, of_decide_eq_true hc59], N82, e82⟩
        · refine own_go (fun _ k => XS.ifYes X82.here hx rfl (pc0 := 59) (pc' := 66) rfl (hb hby own_d2_59) rfl (Jvm.Free.XT.i0_eq_t (own_bi0 hc59)) (by decide) (by decide) k) ?_
          show own_Fin p.tables e below G (T82.setTop (mkF m 66 #[.val (.ref a1), .val (.ref a2), .val (.ref a2)] []))
          refine own_go (fun _ k => XS.iconst X82.here hx rfl (hb hby own_d2_66)  k) ?_
          show own_Fin p.tables e below G (T82.setTop (mkF m 67 #[.val (.ref a1), .val (.ref a2), .val (.ref a2)] [(.int (0 : Int32))]))
          subst hG
          exact own_rv X82 hx (t := .boolean) Bd.returns rfl (Or.inl ⟨rfl, Or.inr (Or.inl rfl), _, rfl⟩) (hb hby own_d2_67) Bd.notSynchronized (by decide) (by decide) ⟨by simp [own_bi, of_decide_eq_true hc23, hc34, hc45, of_decide_eq_false hc59], N82, e82⟩
      · refine own_go (fun _ k => XS.icmpYes X78.here hx rfl (pc0 := 45) (pc' := 66) rfl (hb hby own_d2_45) rfl (Jvm.Free.XT.ii_ne_t hc45) (by decide) (by decide) k) ?_
        show own_Fin p.tables e below G (T78.setTop (mkF m 66 #[.val (.ref a1), .val (.ref a2), .val (.ref a2)] []))
        refine own_go (fun _ k => XS.iconst X78.here hx rfl (hb hby own_d2_66)  k) ?_
        show own_Fin p.tables e below G (T78.setTop (mkF m 67 #[.val (.ref a1), .val (.ref a2), .val (.ref a2)] [(.int (0 : Int32))]))
        subst hG
        exact own_rv X78 hx (t := .boolean) Bd.returns rfl (Or.inl ⟨rfl, Or.inr (Or.inl rfl), _, rfl⟩) (hb hby own_d2_67) Bd.notSynchronized (by decide) (by decide) ⟨by simp [own_bi, of_decide_eq_true hc23, hc34, hc45], N74, e78⟩
    · refine own_go (fun _ k => XS.icmpYes X76.here hx rfl (pc0 := 34) (pc' := 66) rfl (hb hby own_d2_34) rfl (Jvm.Free.XT.ii_ne_t hc34) (by decide) (by decide) k) ?_
      show own_Fin p.tables e below G (T76.setTop (mkF m 66 #[.val (.ref a1), .val (.ref a2), .val (.ref a2)] []))
      refine own_go (fun _ k => XS.iconst X76.here hx rfl (hb hby own_d2_66)  k) ?_
      show own_Fin p.tables e below G (T76.setTop (mkF m 67 #[.val (.ref a1), .val (.ref a2), .val (.ref a2)] [(.int (0 : Int32))]))
      subst hG
      exact own_rv X76 hx (t := .boolean) Bd.returns rfl (Or.inl ⟨rfl, Or.inr (Or.inl rfl), _, rfl⟩) (hb hby own_d2_67) Bd.notSynchronized (by decide) (by decide) ⟨by simp [own_bi, of_decide_eq_true hc23, hc34], N74, e76⟩
  · refine own_go (fun _ k => XS.ifYes X74.here hx rfl (pc0 := 23) (pc' := 66) rfl (hb hby own_d2_23) rfl (Jvm.Free.XT.i0_eq_t (own_bi0 hc23)) (by decide) (by decide) k) ?_
    show own_Fin p.tables e below G (T74.setTop (mkF m 66 #[.val (.ref a1), .val (.ref a2), .val (.ref a2)] []))
    refine own_go (fun _ k => XS.iconst X74.here hx rfl (hb hby own_d2_66)  k) ?_
    show own_Fin p.tables e below G (T74.setTop (mkF m 67 #[.val (.ref a1), .val (.ref a2), .val (.ref a2)] [(.int (0 : Int32))]))
    subst hG
    exact own_rv X74 hx (t := .boolean) Bd.returns rfl (Or.inl ⟨rfl, Or.inr (Or.inl rfl), _, rfl⟩) (hb hby own_d2_67) Bd.notSynchronized (by decide) (by decide) ⟨by simp [own_bi, of_decide_eq_false hc23], N74, e74⟩
theorem own_ef_own_ni (m : MethodId) (a : Addr)  : entryFrame m #[(.ref a)] 1 = (mkF m 0 #[.val (.ref a)] []) := by first | (simp [entryFrame, mkF, argsToLocals, Value.category]; done) | rfl
theorem own_pn2 : plainName "java/lang/Number" = true := by first | (simp [plainName, overriddenIn]; done) | decide +kernel
theorem own_d3_0 : decode jdk_18_method_1_code 0 = .ok (.aload_n 0, 1) := by decide +kernel
theorem own_d3_1 : decode jdk_18_method_1_code 1 = .ok (.invokespecial 1, 3) := by decide +kernel
theorem own_d3_4 : decode jdk_18_method_1_code 4 = .ok (.return_, 1) := by decide +kernel
def own_Q_own_ni (Z : State) (a : Addr) (h0 : Heap) (n0 : Nat) (v : Option Value) (h : Heap) (L : List Loc) : Prop := v = none ∧ Fr n0 L ∧ h = h0
set_option maxRecDepth 65536 in
set_option maxHeartbeats 40000000 in
theorem own_ni (l : Launch) (Z : State) (a0 : Array Value) (hw : ∀ d ∈ tables_1, d.before a0 Z = true) (ws : List Jvm.Cond) (a : Addr) (h0 : Heap) (n0 : Nat) (O0 : Old Z n0 h0) :
    MetFree l (⟨"java/lang/Number", "<init>", "()V"⟩ : MethodName) (head1 (Jvm.Cond.code (⟨"java/lang/Number", "<init>", "()V"⟩ : MethodName) jdk_18_method_1_code 1 none :: ws) ({ frames := 1, cells := 0, slots := 0, locals := 12 } : Room)) (fun as' U => as' = #[(.ref a)] ∧ Z.Warmed39 U.vm ∧ U.heap = h0) (fun _ _ _ _ _ => True) (fun _ U o U' => ∃ v L, o = .returned v ∧ own_Q_own_ni Z a h0 n0 v U'.heap L ∧ FrameEnd U o U' L ({ frames := 1, cells := 0, slots := 0, locals := 12 } : Room).cells ({ frames := 1, cells := 0, slots := 0, locals := 12 } : Room).slots) := by
  refine MetFree.of_bodySF (plainFor_of_name own_pn2) hisR ?_
  intro p e s m args below meth c s₁ Bd hml0 hP hK
  obtain ⟨rfl, hZ, hh⟩ := hP
  have hx := Bd.exec
  have hby := Bd.bytes
  have hml : c.maxLocals = 1 := hml0
  have hown : s.vm.findClass "java/lang/Number" = some m.cls := findClass_of_methodNamed Bd.named
  have hnm := (name_of_methodNamed Bd.named Bd.method).1
  have X0 : Stand p l e ({ frames := 1, cells := 0, slots := 0, locals := 12 } : Room) s m #[(.ref a)] below meth c s₁ [] 0 0 := Stand.of_body Bd
  have e0 : s₁.heap = h0 := by rw [← hh, Bd.state]; rfl
  have N0 := Fr.nil n0
  show own_Fin p.tables e below (fun s₂ o => ∃ v L, o = .returned v ∧ own_Q_own_ni Z a h0 n0 v s₂.heap L ∧ FrameEnd s o s₂ L ({ frames := 1, cells := 0, slots := 0, locals := 12 } : Room).cells ({ frames := 1, cells := 0, slots := 0, locals := 12 } : Room).slots) _
  generalize hG : (fun (s₂ : State) (o : Outcome) => ∃ v L, o = Outcome.returned v ∧ own_Q_own_ni Z a h0 n0 v s₂.heap L ∧ FrameEnd s o s₂ L ({ frames := 1, cells := 0, slots := 0, locals := 12 } : Room).cells ({ frames := 1, cells := 0, slots := 0, locals := 12 } : Room).slots) = G
  refine own_go (fun _ k => castTop (own_ef_own_ni m a) k) ?_
  show own_Fin p.tables e below G (s₁.setTop (mkF m 0 #[.val (.ref a)] []))
  refine own_go (fun _ k => XS.aloadN X0.here hx rfl (hb hby own_d3_0) rfl rfl k) ?_
  show own_Fin p.tables e below G (s₁.setTop (mkF m 1 #[.val (.ref a)] [(.ref a)]))
  obtain ⟨T83, X83, e83, st83⟩ := initO X0 hx hZ hown (own_at hw 93 rfl) (own_at hw 16 rfl) (own_at hw 17 rfl) e0 (g := (mkF m 1 #[.val (.ref a)] [(.ref a)])) rfl (by rw [hml]; rfl) rfl (hb hby own_d3_1) (by decide) (W := 0) (by show 2 * 0 + _ ≤ _; exact Nat.le_of_eq rfl) (by decide)
  refine own_go st83 ?_
  show own_Fin p.tables e below G (T83.setTop (mkF m 4 #[.val (.ref a)] []))
  subst hG
  exact own_r0 X83 hx Bd.returns (hb hby own_d3_4) Bd.notSynchronized (by decide) (by decide) ⟨rfl, N0, e83⟩
theorem own_ef_own_ii (m : MethodId) (a : Addr) (q : Int32)  : entryFrame m #[(.ref a), (.int q)] 2 = (mkF m 0 #[.val (.ref a), .val (.int q)] []) := by first | (simp [entryFrame, mkF, argsToLocals, Value.category]; done) | rfl
theorem own_pn3 : plainName "java/lang/Integer" = true := by first | (simp [plainName, overriddenIn]; done) | decide +kernel
theorem own_d4_0 : decode jdk_33_method_23_code 0 = .ok (.aload_n 0, 1) := by decide +kernel
theorem own_pd2 : parseMethodDescriptor "()V" = some ⟨[], none⟩ := by decide +kernel
theorem own_d4_1 : decode jdk_33_method_23_code 1 = .ok (.invokespecial 202, 3) := by decide +kernel
theorem own_d4_4 : decode jdk_33_method_23_code 4 = .ok (.aload_n 0, 1) := by decide +kernel
theorem own_d4_5 : decode jdk_33_method_23_code 5 = .ok (.iload_n 1, 1) := by decide +kernel
theorem own_d4_6 : decode jdk_33_method_23_code 6 = .ok (.putfield 205, 3) := by decide +kernel
theorem own_d4_9 : decode jdk_33_method_23_code 9 = .ok (.return_, 1) := by decide +kernel
def own_Q_own_ii (Z : State) (a : Addr) (q : Int32) (h0 : Heap) (n0 : Nat) (v : Option Value) (h : Heap) (L : List Loc) : Prop := v = none ∧ Fr n0 L ∧ (fun h => Keep h0 h [a] ∧ Exa Z h a "java/lang/Integer") h
set_option maxRecDepth 65536 in
set_option maxHeartbeats 40000000 in
theorem own_ii (l : Launch) (Z : State) (a0 : Array Value) (hw : ∀ d ∈ tables_1, d.before a0 Z = true) (ws : List Jvm.Cond) (a : Addr) (q : Int32) (h0 : Heap) (n0 : Nat) (O0 : Old Z n0 h0) (Ea : Exa Z h0 a "java/lang/Integer") (Fv : Fld Z h0 a "java/lang/Integer" "value" "I" (.int (0 : Int32))) (ga : n0 ≤ a) :
    MetFree l (⟨"java/lang/Integer", "<init>", "(I)V"⟩ : MethodName) (head1 (Jvm.Cond.code (⟨"java/lang/Integer", "<init>", "(I)V"⟩ : MethodName) jdk_33_method_23_code 2 none :: ws) ({ frames := 2, cells := 0, slots := 0, locals := 24 } : Room)) (fun as' U => as' = #[(.ref a), (.int q)] ∧ Z.Warmed39 U.vm ∧ U.heap = h0) (fun _ _ _ _ _ => True) (fun _ U o U' => ∃ v L, o = .returned v ∧ own_Q_own_ii Z a q h0 n0 v U'.heap L ∧ FrameEnd U o U' L ({ frames := 2, cells := 0, slots := 0, locals := 24 } : Room).cells ({ frames := 2, cells := 0, slots := 0, locals := 24 } : Room).slots) := by
  refine MetFree.of_bodySF (plainFor_of_name own_pn3) hisR ?_
  intro p e s m args below meth c s₁ Bd hml0 hP hK
  obtain ⟨rfl, hZ, hh⟩ := hP
  have hx := Bd.exec
  have hby := Bd.bytes
  have hml : c.maxLocals = 2 := hml0
  have hown : s.vm.findClass "java/lang/Integer" = some m.cls := findClass_of_methodNamed Bd.named
  have hnm := (name_of_methodNamed Bd.named Bd.method).1
  have X0 : Stand p l e ({ frames := 2, cells := 0, slots := 0, locals := 24 } : Room) s m #[(.ref a), (.int q)] below meth c s₁ [] 0 0 := Stand.of_body Bd
  have e0 : s₁.heap = h0 := by rw [← hh, Bd.state]; rfl
  have N0 := Fr.nil n0
  show own_Fin p.tables e below (fun s₂ o => ∃ v L, o = .returned v ∧ own_Q_own_ii Z a q h0 n0 v s₂.heap L ∧ FrameEnd s o s₂ L ({ frames := 2, cells := 0, slots := 0, locals := 24 } : Room).cells ({ frames := 2, cells := 0, slots := 0, locals := 24 } : Room).slots) _
  generalize hG : (fun (s₂ : State) (o : Outcome) => ∃ v L, o = Outcome.returned v ∧ own_Q_own_ii Z a q h0 n0 v s₂.heap L ∧ FrameEnd s o s₂ L ({ frames := 2, cells := 0, slots := 0, locals := 24 } : Room).cells ({ frames := 2, cells := 0, slots := 0, locals := 24 } : Room).slots) = G
  have K0 := Keep.refl h0 [a]
  refine own_go (fun _ k => castTop (own_ef_own_ii m a q) k) ?_
  show own_Fin p.tables e below G (s₁.setTop (mkF m 0 #[.val (.ref a), .val (.int q)] []))
  refine own_go (fun _ k => XS.aloadN X0.here hx rfl (hb hby own_d4_0) rfl rfl k) ?_
  show own_Fin p.tables e below G (s₁.setTop (mkF m 1 #[.val (.ref a), .val (.int q)] [(.ref a)]))
  obtain ⟨_, _, ⟨T84, L84, k84, n84⟩, -, X84, ⟨Lc84, hQ84, l84, y84, z84⟩, st84⟩ := X0.specialBack hx (y := (⟨"java/lang/Number", "<init>", "()V"⟩ : MethodName)) rfl hown (mvT hZ (own_at hw 87 rfl)) (mvT hZ (own_at hw 88 rfl)) (mvT hZ (own_at hw 92 rfl)) (by decide) (backOf (W := 0) (own_ni l Z a0 hw [] a h0 n0 O0) hZ (own_at hw 92 rfl) (own_at hw 91 rfl) (by decide) (by decide)) (g := (mkF m 1 #[.val (.ref a), .val (.int q)] [(.ref a)])) rfl (by rw [hml]; rfl) (Steps.refl _) (a := a) (argsL := []) (rest := []) (lenOf own_pd2 rfl) rfl (by show 2 * 0 + _ ≤ _; exact Nat.le_of_eq rfl) (hb hby own_d4_1) (fun _ _ => ⟨rfl, e0, (by decide : 0 + 0 ≤ _), (by decide : 0 + 0 ≤ _)⟩)
  dsimp only [Pt.U, Pt.locs, Pt.cells, Pt.slots] at X84 l84 y84 z84 st84 hQ84
  subst l84 y84 z84
  obtain ⟨rfl, N84q, e84⟩ := hQ84
  have N84 := Fr.app N0 N84q
  refine own_go (fun _ k => st84.trans k) ?_
  show own_Fin p.tables e below G (T84.setTop (mkF m 4 #[.val (.ref a), .val (.int q)] []))
  refine own_go (fun _ k => XS.aloadN X84.here hx rfl (hb hby own_d4_4) rfl rfl k) ?_
  show own_Fin p.tables e below G (T84.setTop (mkF m 5 #[.val (.ref a), .val (.int q)] [(.ref a)]))
  refine own_go (fun _ k => XS.iloadN X84.here hx rfl (hb hby own_d4_5) rfl k) ?_
  show own_Fin p.tables e below G (T84.setTop (mkF m 6 #[.val (.ref a), .val (.int q)] [(.int q), (.ref a)]))
  obtain ⟨T85, h85, X85, e85, W85, st85⟩ := putF X84 hx hZ hown (host := "") (Or.inl (own_at hw 94 rfl)) Via.refl e84 Fv Ea (Or.inr ⟨(own_at hw 95 rfl), rfl, hnm⟩) (own_at hw 82 rfl) (ty := .int) (by decide) rfl rfl (g := (mkF m 6 #[.val (.ref a), .val (.int q)] [(.int q), (.ref a)])) rfl rfl (hb hby own_d4_6)
  refine own_go st85 ?_
  have Fw85 := Fv.same W85
  have E86 := Ea.wr W85
  have O87 := O0.wr W85 ga
  have K88 := K0.wr W85 (Or.inl (List.mem_of_getElem? (i := 0) rfl))
  have N85 := Fr.snoc X85 N84 ga
  show own_Fin p.tables e below G (T85.setTop (mkF m 9 #[.val (.ref a), .val (.int q)] []))
  subst hG
  exact own_r0 X85 hx Bd.returns (hb hby own_d4_9) Bd.notSynchronized (by decide) (by decide) ⟨rfl, N85, (by rw [e85]; exact ⟨K88, E86⟩)⟩
theorem own_ef_own_ivo (m : MethodId) (q : Int32)  : entryFrame m #[(.int q)] 1 = (mkF m 0 #[.val (.int q)] []) := by first | (simp [entryFrame, mkF, argsToLocals, Value.category]; done) | rfl
theorem own_d5_0 : decode jdk_33_method_22_code 0 = .ok (.iload_n 0, 1) := by decide +kernel
theorem own_d5_1 : decode jdk_33_method_22_code 1 = .ok (.bipush (-128), 2) := by decide +kernel
theorem own_d5_3 : decode jdk_33_method_22_code 3 = .ok (.if_icmp .lt 20, 3) := by decide +kernel
theorem own_d5_23 : decode jdk_33_method_22_code 23 = .ok (.new 1, 3) := by decide +kernel
theorem own_d5_26 : decode jdk_33_method_22_code 26 = .ok (.dup, 1) := by decide +kernel
theorem own_d5_27 : decode jdk_33_method_22_code 27 = .ok (.iload_n 0, 1) := by decide +kernel
theorem own_pd3 : parseMethodDescriptor "(I)V" = some ⟨[.int], none⟩ := by decide +kernel
theorem own_d5_28 : decode jdk_33_method_22_code 28 = .ok (.invokespecial 199, 3) := by decide +kernel
theorem own_d5_31 : decode jdk_33_method_22_code 31 = .ok (.areturn, 1) := by decide +kernel
theorem own_d5_6 : decode jdk_33_method_22_code 6 = .ok (.iload_n 0, 1) := by decide +kernel
theorem own_d5_7 : decode jdk_33_method_22_code 7 = .ok (.getstatic 191, 3) := by decide +kernel
theorem own_d5_10 : decode jdk_33_method_22_code 10 = .ok (.if_icmp .gt 13, 3) := by decide +kernel
theorem own_d5_13 : decode jdk_33_method_22_code 13 = .ok (.getstatic 195, 3) := by decide +kernel
theorem own_d5_16 : decode jdk_33_method_22_code 16 = .ok (.iload_n 0, 1) := by decide +kernel
theorem own_d5_17 : decode jdk_33_method_22_code 17 = .ok (.sipush 128, 3) := by decide +kernel
theorem own_d5_20 : decode jdk_33_method_22_code 20 = .ok (.iadd, 1) := by decide +kernel
theorem own_d5_21 : decode jdk_33_method_22_code 21 = .ok (.aaload, 1) := by decide +kernel
theorem own_d5_22 : decode jdk_33_method_22_code 22 = .ok (.areturn, 1) := by decide +kernel
def own_Q_own_ivo (Z : State) (q : Int32) (oc : Addr) (cc : Cell) (h0 : Heap) (n0 : Nat) (v : Option Value) (h : Heap) (L : List Loc) : Prop := ∃ b : Addr, v = some (.ref b) ∧ Fr n0 L ∧ (fun h => Keep h0 h [] ∧ Exa Z h b "java/lang/Integer") h
set_option maxRecDepth 65536 in
set_option maxHeartbeats 40000000 in
theorem own_ivo (l : Launch) (Z : State) (a0 : Array Value) (hw : ∀ d ∈ tables_1, d.before a0 Z = true) (ws : List Jvm.Cond) (q : Int32) (oc : Addr) (cc : Cell) (h0 : Heap) (n0 : Nat) (O0 : Old Z n0 h0) (SC : Sta Z Z.heap "java/lang/Integer$IntegerCache" "cache" "[Ljava/lang/Integer;" (.ref oc)) (SH : Sta Z Z.heap "java/lang/Integer$IntegerCache" "high" "I" (.int (127 : Int32))) (BX : Bxs Z oc cc "java/lang/Integer" "I" (256 : Int32) (fun j => .int (own_iv j))) :
    MetFree l (⟨"java/lang/Integer", "valueOf", "(I)Ljava/lang/Integer;"⟩ : MethodName) (head1 (Jvm.Cond.code (⟨"java/lang/Integer", "valueOf", "(I)Ljava/lang/Integer;"⟩ : MethodName) jdk_33_method_22_code 1 (some (.object "java/lang/Integer")) :: ws) ({ frames := 3, cells := 1, slots := 1, locals := 39 } : Room)) (fun as' U => as' = #[(.int q)] ∧ Z.Warmed39 U.vm ∧ U.heap = h0) (fun _ _ _ _ _ => True) (fun _ U o U' => ∃ v L, o = .returned v ∧ own_Q_own_ivo Z q oc cc h0 n0 v U'.heap L ∧ FrameEnd U o U' L ({ frames := 3, cells := 1, slots := 1, locals := 39 } : Room).cells ({ frames := 3, cells := 1, slots := 1, locals := 39 } : Room).slots) := by
  refine MetFree.of_bodySF (plainFor_of_name own_pn3) hisR ?_
  intro p e s m args below meth c s₁ Bd hml0 hP hK
  obtain ⟨rfl, hZ, hh⟩ := hP
  have hx := Bd.exec
  have hby := Bd.bytes
  have hml : c.maxLocals = 1 := hml0
  have hown : s.vm.findClass "java/lang/Integer" = some m.cls := findClass_of_methodNamed Bd.named
  have hnm := (name_of_methodNamed Bd.named Bd.method).1
  have X0 : Stand p l e ({ frames := 3, cells := 1, slots := 1, locals := 39 } : Room) s m #[(.int q)] below meth c s₁ [] 0 0 := Stand.of_body Bd
  have e0 : s₁.heap = h0 := by rw [← hh, Bd.state]; rfl
  have N0 := Fr.nil n0
  show own_Fin p.tables e below (fun s₂ o => ∃ v L, o = .returned v ∧ own_Q_own_ivo Z q oc cc h0 n0 v s₂.heap L ∧ FrameEnd s o s₂ L ({ frames := 3, cells := 1, slots := 1, locals := 39 } : Room).cells ({ frames := 3, cells := 1, slots := 1, locals := 39 } : Room).slots) _
  generalize hG : (fun (s₂ : State) (o : Outcome) => ∃ v L, o = Outcome.returned v ∧ own_Q_own_ivo Z q oc cc h0 n0 v s₂.heap L ∧ FrameEnd s o s₂ L ({ frames := 3, cells := 1, slots := 1, locals := 39 } : Room).cells ({ frames := 3, cells := 1, slots := 1, locals := 39 } : Room).slots) = G
  have K0 := Keep.refl h0 []
  refine own_go (fun _ k => castTop (own_ef_own_ivo m q) k) ?_
  show own_Fin p.tables e below G (s₁.setTop (mkF m 0 #[.val (.int q)] []))
  refine own_go (fun _ k => XS.iloadN X0.here hx rfl (hb hby own_d5_0) rfl k) ?_
  show own_Fin p.tables e below G (s₁.setTop (mkF m 1 #[.val (.int q)] [(.int q)]))
  refine own_go (fun _ k => XS.bipush X0.here hx rfl (hb hby own_d5_1)  k) ?_
  show own_Fin p.tables e below G (s₁.setTop (mkF m 3 #[.val (.int q)] [(.int (-128 : Int32)), (.int q)]))
  by_cases hc3 : q < (-128 : Int32)
  · refine own_go (fun _ k => XS.icmpYes X0.here hx rfl (pc0 := 3) (pc' := 23) rfl (hb hby own_d5_3) rfl (Jvm.Free.XT.ii_lt_t hc3) (by decide) (by decide) k) ?_
    show own_Fin p.tables e below G (s₁.setTop (mkF m 23 #[.val (.int q)] []))
    obtain ⟨T89, h89, X89, e89, E89, A89, D89, -, st89⟩ := newO X0 hx hZ hown (own_at hw 81 rfl) (own_at hw 82 rfl) (own_at hw 79 rfl) e0 (g := (mkF m 23 #[.val (.int q)] [])) rfl (hb hby own_d5_23) (by decide) (by decide)
    obtain ⟨b89, g89⟩ : ∃ z, z = h0.size := ⟨_, rfl⟩
    rw [← g89] at A89 D89 st89
    refine own_go st89 ?_
    have gn_b89 : n0 ≤ b89 := Nat.le_trans (own_size O0) (Nat.le_of_eq g89.symm)
    have gk_b89 : h0.size ≤ b89 := Nat.le_trans K0.1 (Nat.le_of_eq g89.symm)
    have O90 := O0.ext E89
    have K91 := K0.ext E89
    have F92 : Fld Z h89 b89 "java/lang/Integer" "value" "I" (.int (0 : Int32)) := D89 (Or.inr (own_at hw 95 rfl)) (ty := .int) (by decide)
    show own_Fin p.tables e below G (T89.setTop (mkF m 26 #[.val (.int q)] [(.ref b89)]))
    refine own_go (fun _ k => XS.dup X89.here hx rfl (hb hby own_d5_26) rfl rfl k) ?_
    show own_Fin p.tables e below G (T89.setTop (mkF m 27 #[.val (.int q)] [(.ref b89), (.ref b89)]))
    refine own_go (fun _ k => XS.iloadN X89.here hx rfl (hb hby own_d5_27) rfl k) ?_
    show own_Fin p.tables e below G (T89.setTop (mkF m 28 #[.val (.int q)] [(.int q), (.ref b89), (.ref b89)]))
    obtain ⟨_, _, ⟨T93, L93, k93, n93⟩, -, X93, ⟨Lc93, hQ93, l93, y93, z93⟩, st93⟩ := X89.specialBack hx (y := (⟨"java/lang/Integer", "<init>", "(I)V"⟩ : MethodName)) rfl hown (mvT hZ (own_at hw 83 rfl)) (mvT hZ (own_at hw 84 rfl)) (mvT hZ (own_at hw 86 rfl)) (by decide) (backOf (W := 1) (own_ii l Z a0 hw [] b89 q h89 n0 O90 A89 F92 gn_b89) hZ (own_at hw 86 rfl) (own_at hw 79 rfl) (by decide) (by decide)) (g := (mkF m 28 #[.val (.int q)] [(.int q), (.ref b89), (.ref b89)])) rfl (by rw [hml]; rfl) (Steps.refl _) (a := b89) (argsL := [(.int q)]) (rest := [(.ref b89)]) (lenOf own_pd3 rfl) rfl (by show 2 * 0 + _ ≤ _; exact Nat.le_of_eq rfl) (hb hby own_d5_28) (fun _ _ => ⟨rfl, e89, (by decide : 1 + 0 ≤ _), (by decide : 1 + 0 ≤ _)⟩)
    dsimp only [Pt.U, Pt.locs, Pt.cells, Pt.slots] at X93 l93 y93 z93 st93 hQ93
    subst l93 y93 z93
    obtain ⟨rfl, N93q, K93, Ew93⟩ := hQ93
    have N93 := Fr.app N0 N93q
    have E94 := A89.keep K93
    have O95 := O90.keep K93 (allS gn_b89 all0)
    have K96 := K91.trans K93 (allS (Or.inr gk_b89) all0)
    refine own_go (fun _ k => st93.trans k) ?_
    show own_Fin p.tables e below G (T93.setTop (mkF m 31 #[.val (.int q)] [(.ref b89)]))
    subst hG
    exact own_rv X93 hx (t := (.object "java/lang/Integer")) Bd.returns rfl (Or.inr (Or.inr (Or.inr (Or.inr ⟨rfl, rfl, rfl⟩)))) (hb hby own_d5_31) Bd.notSynchronized (by decide) (by decide) ⟨b89, rfl, N93, (by exact ⟨K96, E94⟩)⟩
  · refine own_go (fun _ k => XS.icmpNo X0.here hx rfl (hb hby own_d5_3) rfl (Jvm.Free.XT.ii_lt_f hc3) k) ?_
    show own_Fin p.tables e below G (s₁.setTop (mkF m 6 #[.val (.int q)] []))
    refine own_go (fun _ k => XS.iloadN X0.here hx rfl (hb hby own_d5_6) rfl k) ?_
    show own_Fin p.tables e below G (s₁.setTop (mkF m 7 #[.val (.int q)] [(.int q)]))
    obtain ⟨T97, X97, e97, st97⟩ := getS2 X0 hx hZ hown (host := "") (Or.inl (own_at hw 99 rfl)) Via.refl e0 (SH.ext O0.2) (g := (mkF m 7 #[.val (.int q)] [(.int q)])) rfl (hb hby own_d5_7)
    refine own_go st97 ?_
    show own_Fin p.tables e below G (T97.setTop (mkF m 10 #[.val (.int q)] [(.int (127 : Int32)), (.int q)]))
    by_cases hc10 : (127 : Int32) < q
    · refine own_go (fun _ k => XS.icmpYes X97.here hx rfl (pc0 := 10) (pc' := 23) rfl (hb hby own_d5_10) rfl (Jvm.Free.XT.ii_gt_t hc10) (by decide) (by decide) k) ?_
      show own_Fin p.tables e below G (T97.setTop (mkF m 23 #[.val (.int q)] []))
      obtain ⟨T98, h98, X98, e98, E98, A98, D98, -, st98⟩ := newO X97 hx hZ hown (own_at hw 81 rfl) (own_at hw 82 rfl) (own_at hw 79 rfl) e97 (g := (mkF m 23 #[.val (.int q)] [])) rfl (hb hby own_d5_23) (by decide) (by decide)
      obtain ⟨b98, g98⟩ : ∃ z, z = h0.size := ⟨_, rfl⟩
      rw [← g98] at A98 D98 st98
      refine own_go st98 ?_
      have gn_b98 : n0 ≤ b98 := Nat.le_trans (own_size O0) (Nat.le_of_eq g98.symm)
      have gk_b98 : h0.size ≤ b98 := Nat.le_trans K0.1 (Nat.le_of_eq g98.symm)
      have O99 := O0.ext E98
      have K100 := K0.ext E98
      have F101 : Fld Z h98 b98 "java/lang/Integer" "value" "I" (.int (0 : Int32)) := D98 (Or.inr (own_at hw 95 rfl)) (ty := .int) (by decide)
      show own_Fin p.tables e below G (T98.setTop (mkF m 26 #[.val (.int q)] [(.ref b98)]))
      refine own_go (fun _ k => XS.dup X98.here hx rfl (hb hby own_d5_26) rfl rfl k) ?_
      show own_Fin p.tables e below G (T98.setTop (mkF m 27 #[.val (.int q)] [(.ref b98), (.ref b98)]))
      refine own_go (fun _ k => XS.iloadN X98.here hx rfl (hb hby own_d5_27) rfl k) ?_
      show own_Fin p.tables e below G (T98.setTop (mkF m 28 #[.val (.int q)] [(.int q), (.ref b98), (.ref b98)]))
      obtain ⟨_, _, ⟨T102, L102, k102, n102⟩, -, X102, ⟨Lc102, hQ102, l102, y102, z102⟩, st102⟩ := X98.specialBack hx (y := (⟨"java/lang/Integer", "<init>", "(I)V"⟩ : MethodName)) rfl hown (mvT hZ (own_at hw 83 rfl)) (mvT hZ (own_at hw 84 rfl)) (mvT hZ (own_at hw 86 rfl)) (by decide) (backOf (W := 1) (own_ii l Z a0 hw [] b98 q h98 n0 O99 A98 F101 gn_b98) hZ (own_at hw 86 rfl) (own_at hw 79 rfl) (by decide) (by decide)) (g := (mkF m 28 #[.val (.int q)] [(.int q), (.ref b98), (.ref b98)])) rfl (by rw [hml]; rfl) (Steps.refl _) (a := b98) (argsL := [(.int q)]) (rest := [(.ref b98)]) (lenOf own_pd3 rfl) rfl (by show 2 * 0 + _ ≤ _; exact Nat.le_of_eq rfl) (hb hby own_d5_28) (fun _ _ => ⟨rfl, e98, (by decide : 1 + 0 ≤ _), (by decide : 1 + 0 ≤ _)⟩)
      dsimp only [Pt.U, Pt.locs, Pt.cells, Pt.slots] at X102 l102 y102 z102 st102 hQ102
      subst l102 y102 z102
      obtain ⟨rfl, N102q, K102, Ew102⟩ := hQ102
      have N102 := Fr.app N0 N102q
      have E103 := A98.keep K102
      have O104 := O99.keep K102 (allS gn_b98 all0)
      have K105 := K100.trans K102 (allS (Or.inr gk_b98) all0)
      refine own_go (fun _ k => st102.trans k) ?_
      show own_Fin p.tables e below G (T102.setTop (mkF m 31 #[.val (.int q)] [(.ref b98)]))
      subst hG
      exact own_rv X102 hx (t := (.object "java/lang/Integer")) Bd.returns rfl (Or.inr (Or.inr (Or.inr (Or.inr ⟨rfl, rfl, rfl⟩)))) (hb hby own_d5_31) Bd.notSynchronized (by decide) (by decide) ⟨b98, rfl, N102, (by exact ⟨K105, E103⟩)⟩
    · refine own_go (fun _ k => XS.icmpNo X97.here hx rfl (hb hby own_d5_10) rfl (Jvm.Free.XT.ii_gt_f hc10) k) ?_
      show own_Fin p.tables e below G (T97.setTop (mkF m 13 #[.val (.int q)] []))
      obtain ⟨T106, X106, e106, st106⟩ := getS2 X97 hx hZ hown (host := "") (Or.inl (own_at hw 101 rfl)) Via.refl e97 (SC.ext O0.2) (g := (mkF m 13 #[.val (.int q)] [])) rfl (hb hby own_d5_13)
      refine own_go st106 ?_
      show own_Fin p.tables e below G (T106.setTop (mkF m 16 #[.val (.int q)] [(.ref oc)]))
      refine own_go (fun _ k => XS.iloadN X106.here hx rfl (hb hby own_d5_16) rfl k) ?_
      show own_Fin p.tables e below G (T106.setTop (mkF m 17 #[.val (.int q)] [(.int q), (.ref oc)]))
      refine own_go (fun _ k => XS.sipush X106.here hx rfl (hb hby own_d5_17)  k) ?_
      show own_Fin p.tables e below G (T106.setTop (mkF m 20 #[.val (.int q)] [(.int (128 : Int32)), (.int q), (.ref oc)]))
      refine own_go (fun _ k => XS.iadd X106.here hx rfl (hb hby own_d5_20) rfl k) ?_
      show own_Fin p.tables e below G (T106.setTop (mkF m 21 #[.val (.int q)] [(.int (q + (128 : Int32))), (.ref oc)]))
      obtain ⟨Ac, Sc, zc⟩ := BX.ext O0.2
      have hin := own_inb q cc Sc hc3 hc10
      obtain ⟨bx, hat, Eb, -⟩ := BX.2.2.2 _ hin
      refine own_go (fun _ k => X106.aaload hx (j := (q + (128 : Int32))) (v := (.ref bx)) (by rw [e106]; exact Ac.1) (State.isArrayOf_alike hZ.alike Ac.2.1) rfl Ac.2.2 hin hat (g := (mkF m 21 #[.val (.int q)] [(.int (q + (128 : Int32))), (.ref oc)])) rfl rfl (hb hby own_d5_21) _ k) ?_
      show own_Fin p.tables e below G (T106.setTop (mkF m 22 #[.val (.int q)] [(.ref bx)]))
      subst hG
      exact own_rv X106 hx (t := (.object "java/lang/Integer")) Bd.returns rfl (Or.inr (Or.inr (Or.inr (Or.inr ⟨rfl, rfl, rfl⟩)))) (hb hby own_d5_22) Bd.notSynchronized (by decide) (by decide) ⟨bx, rfl, N0, (by rw [e106]; exact ⟨K0, Eb.ext O0.2⟩)⟩
theorem own_ef_own_s4 (m : MethodId) (x : Addr) (b : Addr)  : entryFrame m #[(.ref x), (.ref b), (.int (0 : Int32)), (.int (0 : Int32)), .null] 6 = (mkF m 0 #[.val (.ref x), .val (.ref b), .val (.int (0 : Int32)), .val (.int (0 : Int32)), .val .null, .unset] []) := by first | (simp [entryFrame, mkF, argsToLocals, Value.category]; done) | rfl
theorem own_pn4 : plainName "java/lang/String" = true := by first | (simp [plainName, overriddenIn]; done) | decide +kernel
theorem own_d6_0 : decode jdk_42_method_149_code 0 = .ok (.aload_n 0, 1) := by decide +kernel
theorem own_d6_1 : decode jdk_42_method_149_code 1 = .ok (.invokespecial 1, 3) := by decide +kernel
theorem own_d6_4 : decode jdk_42_method_149_code 4 = .ok (.iload_n 3, 1) := by decide +kernel
theorem own_d6_5 : decode jdk_42_method_149_code 5 = .ok (.ifCond .ne 22, 3) := by decide +kernel
theorem own_d6_8 : decode jdk_42_method_149_code 8 = .ok (.aload_n 0, 1) := by decide +kernel
theorem own_d6_9 : decode jdk_42_method_149_code 9 = .ok (.ldc 7, 2) := by decide +kernel
theorem own_d6_11 : decode jdk_42_method_149_code 11 = .ok (.getfield 9, 3) := by decide +kernel
theorem own_d6_14 : decode jdk_42_method_149_code 14 = .ok (.putfield 9, 3) := by decide +kernel
theorem own_d6_17 : decode jdk_42_method_149_code 17 = .ok (.aload_n 0, 1) := by decide +kernel
theorem own_d6_18 : decode jdk_42_method_149_code 18 = .ok (.ldc 7, 2) := by decide +kernel
theorem own_d6_20 : decode jdk_42_method_149_code 20 = .ok (.getfield 15, 3) := by decide +kernel
theorem own_d6_23 : decode jdk_42_method_149_code 23 = .ok (.putfield 15, 3) := by decide +kernel
theorem own_d6_26 : decode jdk_42_method_149_code 26 = .ok (.return_, 1) := by decide +kernel
def own_Q_own_s4 (Z : State) (x : Addr) (b : Addr) (h0 : Heap) (n0 : Nat) (v : Option Value) (h : Heap) (L : List Loc) : Prop := v = none ∧ Fr n0 L ∧ (fun h => Keep h0 h [x] ∧ own_S Z h x []) h
set_option maxRecDepth 65536 in
set_option maxHeartbeats 40000000 in
theorem own_s4 (l : Launch) (Z : State) (a0 : Array Value) (hw : ∀ d ∈ tables_1, d.before a0 Z = true) (ws : List Jvm.Cond) (x : Addr) (b : Addr) (h0 : Heap) (n0 : Nat) (O0 : Old Z n0 h0) (Ex : Exa Z h0 x "java/lang/String") (Fv : Fld Z h0 x "java/lang/String" "value" "[B" .null) (Fc : Fld Z h0 x "java/lang/String" "coder" "B" (.int (0 : Int32))) (gx : n0 ≤ x) :
    MetFree l (⟨"java/lang/String", "<init>", "([CIILjava/lang/Void;)V"⟩ : MethodName) (head1 (Jvm.Cond.code (⟨"java/lang/String", "<init>", "([CIILjava/lang/Void;)V"⟩ : MethodName) jdk_42_method_149_code 6 none :: ws) ({ frames := 1, cells := 4, slots := 8, locals := 12 } : Room)) (fun as' U => as' = #[(.ref x), (.ref b), (.int (0 : Int32)), (.int (0 : Int32)), .null] ∧ Z.Warmed39 U.vm ∧ U.heap = h0 ∧ CHv Z EL U.vm h0) (fun _ _ _ _ _ => True) (fun _ U o U' => ∃ v L, o = .returned v ∧ own_Q_own_s4 Z x b h0 n0 v U'.heap L ∧ CHr Z EL U.vm U.heap U'.vm U'.heap ∧ ReturnedEndW U o U' L ({ frames := 1, cells := 4, slots := 8, locals := 12 } : Room).cells ({ frames := 1, cells := 4, slots := 8, locals := 12 } : Room).slots) := by
  refine MetFree.of_bodySF (plainFor_of_name own_pn4) hisR ?_
  intro p e s m args below meth c s₁ Bd hml0 hP hK
  obtain ⟨rfl, hZ, hh, hCH⟩ := hP
  have hx := Bd.exec
  have hby := Bd.bytes
  have hml : c.maxLocals = 6 := hml0
  have hown : s.vm.findClass "java/lang/String" = some m.cls := findClass_of_methodNamed Bd.named
  have hnm := (name_of_methodNamed Bd.named Bd.method).1
  have X0 : Stand p l e ({ frames := 1, cells := 4, slots := 8, locals := 12 } : Room) (s.setVm s.vm) m #[(.ref x), (.ref b), (.int (0 : Int32)), (.int (0 : Int32)), .null] below meth c s₁ [] 0 0 := Stand.of_body Bd
  have e0 : s₁.heap = h0 := by rw [← hh, Bd.state]; rfl
  have N0 := Fr.nil n0
  show own_Fin p.tables e below (fun s₂ o => ∃ v L, o = .returned v ∧ own_Q_own_s4 Z x b h0 n0 v s₂.heap L ∧ CHr Z EL s.vm s.heap s₂.vm s₂.heap ∧ ReturnedEndW s o s₂ L ({ frames := 1, cells := 4, slots := 8, locals := 12 } : Room).cells ({ frames := 1, cells := 4, slots := 8, locals := 12 } : Room).slots) _
  generalize hG : (fun (s₂ : State) (o : Outcome) => ∃ v L, o = Outcome.returned v ∧ own_Q_own_s4 Z x b h0 n0 v s₂.heap L ∧ CHr Z EL s.vm s.heap s₂.vm s₂.heap ∧ ReturnedEndW s o s₂ L ({ frames := 1, cells := 4, slots := 8, locals := 12 } : Room).cells ({ frames := 1, cells := 4, slots := 8, locals := 12 } : Room).slots) = G
  have SS0 : s.Since s.vm h0.size := (State.WarmedH.refl s).since _
  have hk0 : h0.size ≤ h0.size := Nat.le_refl _
  have CH0 := CHr.refl hCH
  have hEL := own_EW hw
  have K0 := Keep.refl h0 [x]
  refine own_go (fun _ k => castTop (own_ef_own_s4 m x b) k) ?_
  show own_Fin p.tables e below G (s₁.setTop (mkF m 0 #[.val (.ref x), .val (.ref b), .val (.int (0 : Int32)), .val (.int (0 : Int32)), .val .null, .unset] []))
  have sx : Safe Z EL s.vm h0 x := own_safe hZ.alike Ex Fv
  refine own_go (fun _ k => XS.aloadN X0.here hx rfl (hb hby own_d6_0) rfl rfl k) ?_
  show own_Fin p.tables e below G (s₁.setTop (mkF m 1 #[.val (.ref x), .val (.ref b), .val (.int (0 : Int32)), .val (.int (0 : Int32)), .val .null, .unset] [(.ref x)]))
  obtain ⟨T107, X107, e107, st107⟩ := initO X0 hx hZ hown (own_at hw 15 rfl) (own_at hw 16 rfl) (own_at hw 17 rfl) e0 (g := (mkF m 1 #[.val (.ref x), .val (.ref b), .val (.int (0 : Int32)), .val (.int (0 : Int32)), .val .null, .unset] [(.ref x)])) rfl (by rw [hml]; rfl) rfl (hb hby own_d6_1) (by decide) (W := 0) (by show 2 * 0 + _ ≤ _; exact Nat.le_of_eq rfl) (by decide)
  refine own_go st107 ?_
  show own_Fin p.tables e below G (T107.setTop (mkF m 4 #[.val (.ref x), .val (.ref b), .val (.int (0 : Int32)), .val (.int (0 : Int32)), .val .null, .unset] []))
  refine own_go (fun _ k => XS.iloadN X107.here hx rfl (hb hby own_d6_4) rfl k) ?_
  show own_Fin p.tables e below G (T107.setTop (mkF m 5 #[.val (.ref x), .val (.ref b), .val (.int (0 : Int32)), .val (.int (0 : Int32)), .val .null, .unset] [(.int (0 : Int32))]))
  refine own_go (fun _ k => XS.ifNo X107.here hx rfl (hb hby own_d6_5) rfl (Jvm.Free.XT.i0_ne_f (by decide)) k) ?_
  show own_Fin p.tables e below G (T107.setTop (mkF m 8 #[.val (.ref x), .val (.ref b), .val (.int (0 : Int32)), .val (.int (0 : Int32)), .val .null, .unset] []))
  refine own_go (fun _ k => XS.aloadN X107.here hx rfl (hb hby own_d6_8) rfl rfl k) ?_
  show own_Fin p.tables e below G (T107.setTop (mkF m 9 #[.val (.ref x), .val (.ref b), .val (.int (0 : Int32)), .val (.int (0 : Int32)), .val .null, .unset] [(.ref x)]))
  obtain ⟨b108, T108, h108, k108, t108, kb108, X108, e108, E108, SS108, hkk108, hZ108, hown108, EA108, FC108, FV108, AV108, -, -, R108, -, ne108, st108⟩ := ldcCH X107 hx hZ hown (own_at hw 18 rfl) (own_sa hw) e107 SS0 hk0 hEL (own_mem) CH0.1 (vs := []) (z := 0) ⟨by decide, rfl⟩ (by decide) (by decide) (g := (mkF m 9 #[.val (.ref x), .val (.ref b), .val (.int (0 : Int32)), .val (.int (0 : Int32)), .val .null, .unset] [(.ref x)])) rfl (hb hby own_d6_9) (n := 0) (by decide) (by decide) (by decide) (by decide)
  refine own_go st108 ?_
  have sf109 := CHr.safe R108 Ex.lt sx
  have F110 := Fv.ext E108
  have F111 := Fc.ext E108
  have E112 := Ex.ext E108
  have O113 := O0.ext E108
  have K114 := K0.ext E108
  have hk115 := Nat.le_trans hk0 E108.1
  have CH116 := CH0.trans R108
  show own_Fin p.tables e below G (T108.setTop (mkF m 11 #[.val (.ref x), .val (.ref b), .val (.int (0 : Int32)), .val (.int (0 : Int32)), .val .null, .unset] [(.ref b108), (.ref x)]))
  have nex_108 := (ne108 _ sf109).1
  obtain ⟨T117, X117, e117, st117⟩ := getF X108 hx hZ108 hown108 (host := "") (Or.inl (own_at hw 24 rfl)) Via.refl e108 FV108 (g := (mkF m 11 #[.val (.ref x), .val (.ref b), .val (.int (0 : Int32)), .val (.int (0 : Int32)), .val .null, .unset] [(.ref b108), (.ref x)])) rfl rfl (hb hby own_d6_11)
  refine own_go st117 ?_
  show own_Fin p.tables e below G (T117.setTop (mkF m 14 #[.val (.ref x), .val (.ref b), .val (.int (0 : Int32)), .val (.int (0 : Int32)), .val .null, .unset] [(.ref t108), (.ref x)]))
  obtain ⟨T118, h118, X118, e118, W118, st118⟩ := putF X117 hx hZ108 hown108 (host := "") (Or.inl (own_at hw 24 rfl)) Via.refl e117 F110 E112 (Or.inr ⟨(own_at hw 20 rfl), rfl, hnm⟩) (own_at hw 5 rfl) (ty := (.array .byte)) (by decide) rfl rfl (g := (mkF m 14 #[.val (.ref x), .val (.ref b), .val (.int (0 : Int32)), .val (.int (0 : Int32)), .val .null, .unset] [(.ref t108), (.ref x)])) rfl rfl (hb hby own_d6_14)
  refine own_go st118 ?_
  have Fw118 := F110.same W118
  have F119 := F111.other W118 (Or.inr (slot_ne (Or.inr (own_at hw 21 rfl)) (Or.inr (own_at hw 20 rfl)) (by decide) (t := .byte) (t' := (.array .byte)) (by decide) (by decide)))
  have F120 := FC108.other W118 (Or.inl (Ne.symm nex_108))
  have F121 := FV108.other W118 (Or.inl (Ne.symm nex_108))
  have E122 := E112.wr W118
  have E123 := EA108.wr W118
  have P124 := (AV108.other W118 (Ne.symm (Exa.neArv E112 AV108 (own_at hw 5 rfl))))
  have O125 := O113.wr W118 gx
  have K126 := K114.wr W118 (Or.inl (List.mem_of_getElem? (i := 0) rfl))
  have hk127 := Nat.le_trans hkk108 (Keep.of_wr W118).1
  have sf128 := Safe.wr W118 sf109 CH116.1 sf109
  have CH129 := CH116.trans (CHr.wr W118 sf109 CH116.1)
  have N118 := Fr.snoc X118 N0 gx
  show own_Fin p.tables e below G (T118.setTop (mkF m 17 #[.val (.ref x), .val (.ref b), .val (.int (0 : Int32)), .val (.int (0 : Int32)), .val .null, .unset] []))
  refine own_go (fun _ k => XS.aloadN X118.here hx rfl (hb hby own_d6_17) rfl rfl k) ?_
  show own_Fin p.tables e below G (T118.setTop (mkF m 18 #[.val (.ref x), .val (.ref b), .val (.int (0 : Int32)), .val (.int (0 : Int32)), .val .null, .unset] [(.ref x)]))
  obtain ⟨b130, T130, h130, k130, t130, kb130, X130, e130, E130, SS130, hkk130, hZ130, hown130, EA130, FC130, FV130, AV130, -, -, R130, -, ne130, st130⟩ := ldcCH X118 hx hZ108 hown108 (own_at hw 18 rfl) (own_sa hw) e118 SS108 hk127 hEL (own_mem) CH129.1 (vs := []) (z := 0) ⟨by decide, rfl⟩ (by decide) (by decide) (g := (mkF m 18 #[.val (.ref x), .val (.ref b), .val (.int (0 : Int32)), .val (.int (0 : Int32)), .val .null, .unset] [(.ref x)])) rfl (hb hby own_d6_18) (n := 0) (by decide) (by decide) (by decide) (by decide)
  refine own_go st130 ?_
  have sf131 := CHr.safe R130 E122.lt sf128
  have F132 := F119.ext E130
  have F133 := Fw118.ext E130
  have E134 := E122.ext E130
  have P135 := P124.ext E130
  have O136 := O125.ext E130
  have K137 := K126.ext E130
  have hk138 := Nat.le_trans hk127 E130.1
  have CH139 := CH129.trans R130
  show own_Fin p.tables e below G (T130.setTop (mkF m 20 #[.val (.ref x), .val (.ref b), .val (.int (0 : Int32)), .val (.int (0 : Int32)), .val .null, .unset] [(.ref b130), (.ref x)]))
  have nex_130 := (ne130 _ sf131).1
  obtain ⟨T140, X140, e140, st140⟩ := getF X130 hx hZ130 hown130 (host := "") (Or.inl (own_at hw 25 rfl)) Via.refl e130 FC130 (g := (mkF m 20 #[.val (.ref x), .val (.ref b), .val (.int (0 : Int32)), .val (.int (0 : Int32)), .val .null, .unset] [(.ref b130), (.ref x)])) rfl rfl (hb hby own_d6_20)
  refine own_go st140 ?_
  show own_Fin p.tables e below G (T140.setTop (mkF m 23 #[.val (.ref x), .val (.ref b), .val (.int (0 : Int32)), .val (.int (0 : Int32)), .val .null, .unset] [(.int (0 : Int32)), (.ref x)]))
  obtain ⟨T141, h141, X141, e141, W141, st141⟩ := putF X140 hx hZ130 hown130 (host := "") (Or.inl (own_at hw 25 rfl)) Via.refl e140 F132 E134 (Or.inr ⟨(own_at hw 21 rfl), rfl, hnm⟩) (own_at hw 5 rfl) (ty := .byte) (by decide) rfl rfl (g := (mkF m 23 #[.val (.ref x), .val (.ref b), .val (.int (0 : Int32)), .val (.int (0 : Int32)), .val .null, .unset] [(.int (0 : Int32)), (.ref x)])) rfl rfl (hb hby own_d6_23)
  refine own_go st141 ?_
  have Fw141 := F132.same W141
  have F142 := F133.other W141 (Or.inr (slot_ne (Or.inr (own_at hw 20 rfl)) (Or.inr (own_at hw 21 rfl)) (by decide) (t := (.array .byte)) (t' := .byte) (by decide) (by decide)))
  have F143 := FC130.other W141 (Or.inl (Ne.symm nex_130))
  have E144 := E134.wr W141
  have E145 := EA130.wr W141
  have P146 := (P135.other W141 (Ne.symm (Exa.neArv E134 P135 (own_at hw 5 rfl))))
  have O147 := O136.wr W141 gx
  have K148 := K137.wr W141 (Or.inl (List.mem_of_getElem? (i := 0) rfl))
  have hk149 := Nat.le_trans hkk130 (Keep.of_wr W141).1
  have sf150 := Safe.wr W141 sf131 CH139.1 sf131
  have CH151 := CH139.trans (CHr.wr W141 sf131 CH139.1)
  have N141 := Fr.snoc X141 N118 gx
  show own_Fin p.tables e below G (T141.setTop (mkF m 26 #[.val (.ref x), .val (.ref b), .val (.int (0 : Int32)), .val (.int (0 : Int32)), .val .null, .unset] []))
  subst hG
  exact own_r0H X141 SS130 (own_hk e141 hk149) hZ130 hEL hh e141 CH151 hx Bd.returns (hb hby own_d6_26) Bd.notSynchronized (by decide) (by decide) ⟨rfl, N141, (by rw [e141]; exact ⟨K148, _, _, E144, Fw141, F142, P146, fun _ q => (nomatch q), by decide⟩)⟩
theorem own_ef_own_s1 (m : MethodId) (x : Addr) (b : Addr)  : entryFrame m #[(.ref x), (.ref b)] 2 = (mkF m 0 #[.val (.ref x), .val (.ref b)] []) := by first | (simp [entryFrame, mkF, argsToLocals, Value.category]; done) | rfl
theorem own_d7_0 : decode jdk_42_method_3_code 0 = .ok (.aload_n 0, 1) := by decide +kernel
theorem own_d7_1 : decode jdk_42_method_3_code 1 = .ok (.aload_n 1, 1) := by decide +kernel
theorem own_d7_2 : decode jdk_42_method_3_code 2 = .ok (.iconst 0, 1) := by decide +kernel
theorem own_d7_3 : decode jdk_42_method_3_code 3 = .ok (.aload_n 1, 1) := by decide +kernel
theorem own_d7_4 : decode jdk_42_method_3_code 4 = .ok (.arraylength, 1) := by decide +kernel
theorem own_d7_5 : decode jdk_42_method_3_code 5 = .ok (.aconst_null, 1) := by decide +kernel
theorem own_pd4 : parseMethodDescriptor "([CIILjava/lang/Void;)V" = some ⟨[(.array .char), .int, .int, (.object "java/lang/Void")], none⟩ := by decide +kernel
theorem own_d7_6 : decode jdk_42_method_3_code 6 = .ok (.invokespecial 27, 3) := by decide +kernel
theorem own_d7_9 : decode jdk_42_method_3_code 9 = .ok (.return_, 1) := by decide +kernel
def own_Q_own_s1 (Z : State) (x : Addr) (b : Addr) (cb : Cell) (h0 : Heap) (n0 : Nat) (v : Option Value) (h : Heap) (L : List Loc) : Prop := v = none ∧ Fr n0 L ∧ (fun h => Keep h0 h [x] ∧ own_S Z h x []) h
set_option maxRecDepth 65536 in
set_option maxHeartbeats 40000000 in
theorem own_s1 (l : Launch) (Z : State) (a0 : Array Value) (hw : ∀ d ∈ tables_1, d.before a0 Z = true) (ws : List Jvm.Cond) (x : Addr) (b : Addr) (cb : Cell) (h0 : Heap) (n0 : Nat) (O0 : Old Z n0 h0) (Ex : Exa Z h0 x "java/lang/String") (Fv : Fld Z h0 x "java/lang/String" "value" "[B" .null) (Fc : Fld Z h0 x "java/lang/String" "coder" "B" (.int (0 : Int32))) (gx : n0 ≤ x) (Ab : Arr Z h0 b cb .char) (hcb : cb.slots.size = 0) :
    MetFree l (⟨"java/lang/String", "<init>", "([C)V"⟩ : MethodName) (head1 (Jvm.Cond.code (⟨"java/lang/String", "<init>", "([C)V"⟩ : MethodName) jdk_42_method_3_code 2 none :: ws) ({ frames := 2, cells := 4, slots := 8, locals := 29 } : Room)) (fun as' U => as' = #[(.ref x), (.ref b)] ∧ Z.Warmed39 U.vm ∧ U.heap = h0 ∧ CHv Z EL U.vm h0) (fun _ _ _ _ _ => True) (fun _ U o U' => ∃ v L, o = .returned v ∧ own_Q_own_s1 Z x b cb h0 n0 v U'.heap L ∧ CHr Z EL U.vm U.heap U'.vm U'.heap ∧ ReturnedEndW U o U' L ({ frames := 2, cells := 4, slots := 8, locals := 29 } : Room).cells ({ frames := 2, cells := 4, slots := 8, locals := 29 } : Room).slots) := by
  refine MetFree.of_bodySF (plainFor_of_name own_pn4) hisR ?_
  intro p e s m args below meth c s₁ Bd hml0 hP hK
  obtain ⟨rfl, hZ, hh, hCH⟩ := hP
  have hx := Bd.exec
  have hby := Bd.bytes
  have hml : c.maxLocals = 2 := hml0
  have hown : s.vm.findClass "java/lang/String" = some m.cls := findClass_of_methodNamed Bd.named
  have hnm := (name_of_methodNamed Bd.named Bd.method).1
  have X0 : Stand p l e ({ frames := 2, cells := 4, slots := 8, locals := 29 } : Room) (s.setVm s.vm) m #[(.ref x), (.ref b)] below meth c s₁ [] 0 0 := Stand.of_body Bd
  have e0 : s₁.heap = h0 := by rw [← hh, Bd.state]; rfl
  have N0 := Fr.nil n0
  show own_Fin p.tables e below (fun s₂ o => ∃ v L, o = .returned v ∧ own_Q_own_s1 Z x b cb h0 n0 v s₂.heap L ∧ CHr Z EL s.vm s.heap s₂.vm s₂.heap ∧ ReturnedEndW s o s₂ L ({ frames := 2, cells := 4, slots := 8, locals := 29 } : Room).cells ({ frames := 2, cells := 4, slots := 8, locals := 29 } : Room).slots) _
  generalize hG : (fun (s₂ : State) (o : Outcome) => ∃ v L, o = Outcome.returned v ∧ own_Q_own_s1 Z x b cb h0 n0 v s₂.heap L ∧ CHr Z EL s.vm s.heap s₂.vm s₂.heap ∧ ReturnedEndW s o s₂ L ({ frames := 2, cells := 4, slots := 8, locals := 29 } : Room).cells ({ frames := 2, cells := 4, slots := 8, locals := 29 } : Room).slots) = G
  have SS0 : s.Since s.vm h0.size := (State.WarmedH.refl s).since _
  have hk0 : h0.size ≤ h0.size := Nat.le_refl _
  have CH0 := CHr.refl hCH
  have hEL := own_EW hw
  have K0 := Keep.refl h0 [x]
  refine own_go (fun _ k => castTop (own_ef_own_s1 m x b) k) ?_
  show own_Fin p.tables e below G (s₁.setTop (mkF m 0 #[.val (.ref x), .val (.ref b)] []))
  refine own_go (fun _ k => XS.aloadN X0.here hx rfl (hb hby own_d7_0) rfl rfl k) ?_
  show own_Fin p.tables e below G (s₁.setTop (mkF m 1 #[.val (.ref x), .val (.ref b)] [(.ref x)]))
  refine own_go (fun _ k => XS.aloadN X0.here hx rfl (hb hby own_d7_1) rfl rfl k) ?_
  show own_Fin p.tables e below G (s₁.setTop (mkF m 2 #[.val (.ref x), .val (.ref b)] [(.ref b), (.ref x)]))
  refine own_go (fun _ k => XS.iconst X0.here hx rfl (hb hby own_d7_2)  k) ?_
  show own_Fin p.tables e below G (s₁.setTop (mkF m 3 #[.val (.ref x), .val (.ref b)] [(.int (0 : Int32)), (.ref b), (.ref x)]))
  refine own_go (fun _ k => XS.aloadN X0.here hx rfl (hb hby own_d7_3) rfl rfl k) ?_
  show own_Fin p.tables e below G (s₁.setTop (mkF m 4 #[.val (.ref x), .val (.ref b)] [(.ref b), (.int (0 : Int32)), (.ref b), (.ref x)]))
  refine own_go (fun _ k => X0.arraylength hx (by rw [e0]; exact Ab.1) (State.isArrayOf_alike hZ.alike Ab.2.1) (g := (mkF m 4 #[.val (.ref x), .val (.ref b)] [(.ref b), (.int (0 : Int32)), (.ref b), (.ref x)])) rfl rfl (hb hby own_d7_4) _ k) ?_
  show own_Fin p.tables e below G (s₁.setTop (mkF m 5 #[.val (.ref x), .val (.ref b)] [(.int cb.slots.size.toInt32), (.int (0 : Int32)), (.ref b), (.ref x)]))
  rw [show cb.slots.size.toInt32 = (0 : Int32) by rw [hcb]; rfl]
  show own_Fin p.tables e below G (s₁.setTop (mkF m 5 #[.val (.ref x), .val (.ref b)] [(.int (0 : Int32)), (.int (0 : Int32)), (.ref b), (.ref x)]))
  refine own_go (fun _ k => XS.aconstNull X0.here hx rfl (hb hby own_d7_5)  k) ?_
  show own_Fin p.tables e below G (s₁.setTop (mkF m 6 #[.val (.ref x), .val (.ref b)] [.null, (.int (0 : Int32)), (.int (0 : Int32)), (.ref b), (.ref x)]))
  obtain ⟨_, _, ⟨T152, L152, k152, n152⟩, -, X152, S152, gs152, ⟨Lc152, hQ152, l152, y152, z152, R152⟩, st152⟩ := X0.specialBackS hx (y := (⟨"java/lang/String", "<init>", "([CIILjava/lang/Void;)V"⟩ : MethodName)) rfl hown (mvT hZ (own_at hw 11 rfl)) (mvT hZ (own_at hw 12 rfl)) (mvT hZ (own_at hw 14 rfl)) (by decide) (backOfSH (W := 0) (own_s4 l Z a0 hw [] x b h0 n0 O0 Ex Fv Fc gx) hZ (own_at hw 14 rfl) (own_at hw 6 rfl) (by decide) (by decide) hEL CH0.1) (g := (mkF m 6 #[.val (.ref x), .val (.ref b)] [.null, (.int (0 : Int32)), (.int (0 : Int32)), (.ref b), (.ref x)])) rfl (by rw [hml]; rfl) (Steps.refl _) (a := x) (argsL := [(.ref b), (.int (0 : Int32)), (.int (0 : Int32)), .null]) (rest := []) (lenOf own_pd4 rfl) rfl (by show 2 * 0 + _ ≤ _; exact Nat.le_of_eq rfl) (hb hby own_d7_6) (fun _ _ => ⟨rfl, e0, (by decide : 0 + 4 ≤ _), (by decide : 0 + 8 ≤ _)⟩)
  dsimp only [Pt.U, Pt.locs, Pt.cells, Pt.slots] at X152 l152 y152 z152 st152 hQ152 S152 gs152 R152
  subst l152 y152 z152
  have SS152 := foldS SS0 (own_hk e0 hk0) S152 gs152
  have hZ152 := own_rebZ hZ S152
  have hown152 := own_rebO hown S152
  have hkk152 : T152.heap.size ≤ T152.heap.size := Nat.le_refl _
  have X152 : Stand p l e ({ frames := 2, cells := 4, slots := 8, locals := 29 } : Room) (s.setVm T152.vm) m #[(.ref x), (.ref b)] below meth c T152 _ _ _ := X152
  have CH153 := CH0.trans R152
  obtain ⟨rfl, N152q, K152, Sx152⟩ := hQ152
  have N152 := Fr.app N0 N152q
  have E154 := Ex.keep K152
  have O155 := O0.keep K152 (allS gx all0)
  have K156 := K0.trans K152 (allS (Or.inl (List.mem_of_getElem? (i := 0) rfl)) all0)
  refine own_go (fun _ k => st152.trans k) ?_
  show own_Fin p.tables e below G (T152.setTop (mkF m 9 #[.val (.ref x), .val (.ref b)] []))
  subst hG
  exact own_r0H X152 SS152 (own_hk (rfl : T152.heap = T152.heap) hkk152) hZ152 hEL hh (rfl : T152.heap = T152.heap) CH153 hx Bd.returns (hb hby own_d7_9) Bd.notSynchronized (by decide) (by decide) ⟨rfl, N152, (by exact ⟨K156, Sx152⟩)⟩
theorem own_ef_own_mk (m : MethodId) (p1 : Int32)  : entryFrame m #[(.int p1)] 5 = (mkF m 0 #[.val (.int p1), .unset, .unset, .unset, .unset] []) := by first | (simp [entryFrame, mkF, argsToLocals, Value.category]; done) | rfl
theorem own_pn5 : plainName "com/example/tagwright/tagwright/diag/DiagnosticEqualsPinLaw" = true := by first | (simp [plainName, overriddenIn]; done) | decide +kernel
theorem own_d8_0 : decode method_2_code 0 = .ok (.iload_n 0, 1) := by decide +kernel
theorem own_d8_1 : decode method_2_code 1 = .ok (.iconst 3, 1) := by decide +kernel
theorem own_d8_2 : decode method_2_code 2 = .ok (.iand, 1) := by decide +kernel
theorem own_d8_3 : decode method_2_code 3 = .ok (.istore_n 1, 1) := by decide +kernel
theorem own_d8_4 : decode method_2_code 4 = .ok (.iload_n 0, 1) := by decide +kernel
theorem own_d8_5 : decode method_2_code 5 = .ok (.iconst 2, 1) := by decide +kernel
theorem own_d8_6 : decode method_2_code 6 = .ok (.iushr, 1) := by decide +kernel
theorem own_d8_7 : decode method_2_code 7 = .ok (.sipush 255, 3) := by decide +kernel
theorem own_d8_10 : decode method_2_code 10 = .ok (.iand, 1) := by decide +kernel
theorem own_d8_11 : decode method_2_code 11 = .ok (.i2c, 1) := by decide +kernel
theorem own_d8_12 : decode method_2_code 12 = .ok (.istore_n 2, 1) := by decide +kernel
theorem own_d8_13 : decode method_2_code 13 = .ok (.iload_n 0, 1) := by decide +kernel
theorem own_d8_14 : decode method_2_code 14 = .ok (.bipush 10, 2) := by decide +kernel
theorem own_d8_16 : decode method_2_code 16 = .ok (.iushr, 1) := by decide +kernel
theorem own_d8_17 : decode method_2_code 17 = .ok (.sipush 255, 3) := by decide +kernel
theorem own_d8_20 : decode method_2_code 20 = .ok (.iand, 1) := by decide +kernel
theorem own_d8_21 : decode method_2_code 21 = .ok (.i2c, 1) := by decide +kernel
theorem own_d8_22 : decode method_2_code 22 = .ok (.istore_n 3, 1) := by decide +kernel
theorem own_d8_23 : decode method_2_code 23 = .ok (.iload_n 0, 1) := by decide +kernel
theorem own_d8_24 : decode method_2_code 24 = .ok (.bipush 18, 2) := by decide +kernel
theorem own_d8_26 : decode method_2_code 26 = .ok (.iushr, 1) := by decide +kernel
theorem own_d8_27 : decode method_2_code 27 = .ok (.sipush 255, 3) := by decide +kernel
theorem own_d8_30 : decode method_2_code 30 = .ok (.iand, 1) := by decide +kernel
theorem own_d8_31 : decode method_2_code 31 = .ok (.i2c, 1) := by decide +kernel
theorem own_d8_32 : decode method_2_code 32 = .ok (.istore 4, 2) := by decide +kernel
theorem own_d8_34 : decode method_2_code 34 = .ok (.iload_n 1, 1) := by decide +kernel
theorem own_d8_35 : decode method_2_code 35 = .ok (.ifCond .ne 14, 3) := by decide +kernel
theorem own_d8_38 : decode method_2_code 38 = .ok (.new 7, 3) := by decide +kernel
theorem own_d8_41 : decode method_2_code 41 = .ok (.dup, 1) := by decide +kernel
theorem own_d8_42 : decode method_2_code 42 = .ok (.iconst 0, 1) := by decide +kernel
theorem own_d8_43 : decode method_2_code 43 = .ok (.newarray .char, 2) := by decide +kernel
theorem own_pd5 : parseMethodDescriptor "([C)V" = some ⟨[(.array .char)], none⟩ := by decide +kernel
theorem own_d8_45 : decode method_2_code 45 = .ok (.invokespecial 9, 3) := by decide +kernel
theorem own_d8_48 : decode method_2_code 48 = .ok (.areturn, 1) := by decide +kernel
theorem own_d8_49 : decode method_2_code 49 = .ok (.iload_n 1, 1) := by decide +kernel
theorem own_d8_50 : decode method_2_code 50 = .ok (.iconst 1, 1) := by decide +kernel
theorem own_d8_51 : decode method_2_code 51 = .ok (.if_icmp .ne 18, 3) := by decide +kernel
theorem own_d8_54 : decode method_2_code 54 = .ok (.new 7, 3) := by decide +kernel
theorem own_d8_57 : decode method_2_code 57 = .ok (.dup, 1) := by decide +kernel
theorem own_d8_58 : decode method_2_code 58 = .ok (.iconst 1, 1) := by decide +kernel
theorem own_d8_59 : decode method_2_code 59 = .ok (.newarray .char, 2) := by decide +kernel
theorem own_d8_61 : decode method_2_code 61 = .ok (.dup, 1) := by decide +kernel
theorem own_d8_62 : decode method_2_code 62 = .ok (.iconst 0, 1) := by decide +kernel
theorem own_d8_63 : decode method_2_code 63 = .ok (.iload_n 2, 1) := by decide +kernel
theorem own_d8_64 : decode method_2_code 64 = .ok (.castore, 1) := by decide +kernel
theorem own_d8_65 : decode method_2_code 65 = .ok (.invokespecial 9, 3) := by decide +kernel
theorem own_d8_68 : decode method_2_code 68 = .ok (.areturn, 1) := by decide +kernel
theorem own_d8_69 : decode method_2_code 69 = .ok (.iload_n 1, 1) := by decide +kernel
theorem own_d8_70 : decode method_2_code 70 = .ok (.iconst 2, 1) := by decide +kernel
theorem own_d8_71 : decode method_2_code 71 = .ok (.if_icmp .ne 22, 3) := by decide +kernel
theorem own_d8_74 : decode method_2_code 74 = .ok (.new 7, 3) := by decide +kernel
theorem own_d8_77 : decode method_2_code 77 = .ok (.dup, 1) := by decide +kernel
theorem own_d8_78 : decode method_2_code 78 = .ok (.iconst 2, 1) := by decide +kernel
theorem own_d8_79 : decode method_2_code 79 = .ok (.newarray .char, 2) := by decide +kernel
theorem own_d8_81 : decode method_2_code 81 = .ok (.dup, 1) := by decide +kernel
theorem own_d8_82 : decode method_2_code 82 = .ok (.iconst 0, 1) := by decide +kernel
theorem own_d8_83 : decode method_2_code 83 = .ok (.iload_n 2, 1) := by decide +kernel
theorem own_d8_84 : decode method_2_code 84 = .ok (.castore, 1) := by decide +kernel
theorem own_d8_85 : decode method_2_code 85 = .ok (.dup, 1) := by decide +kernel
theorem own_d8_86 : decode method_2_code 86 = .ok (.iconst 1, 1) := by decide +kernel
theorem own_d8_87 : decode method_2_code 87 = .ok (.iload_n 3, 1) := by decide +kernel
theorem own_d8_88 : decode method_2_code 88 = .ok (.castore, 1) := by decide +kernel
theorem own_d8_89 : decode method_2_code 89 = .ok (.invokespecial 9, 3) := by decide +kernel
theorem own_d8_92 : decode method_2_code 92 = .ok (.areturn, 1) := by decide +kernel
theorem own_d8_93 : decode method_2_code 93 = .ok (.new 7, 3) := by decide +kernel
theorem own_d8_96 : decode method_2_code 96 = .ok (.dup, 1) := by decide +kernel
theorem own_d8_97 : decode method_2_code 97 = .ok (.iconst 3, 1) := by decide +kernel
theorem own_d8_98 : decode method_2_code 98 = .ok (.newarray .char, 2) := by decide +kernel
theorem own_d8_100 : decode method_2_code 100 = .ok (.dup, 1) := by decide +kernel
theorem own_d8_101 : decode method_2_code 101 = .ok (.iconst 0, 1) := by decide +kernel
theorem own_d8_102 : decode method_2_code 102 = .ok (.iload_n 2, 1) := by decide +kernel
theorem own_d8_103 : decode method_2_code 103 = .ok (.castore, 1) := by decide +kernel
theorem own_d8_104 : decode method_2_code 104 = .ok (.dup, 1) := by decide +kernel
theorem own_d8_105 : decode method_2_code 105 = .ok (.iconst 1, 1) := by decide +kernel
theorem own_d8_106 : decode method_2_code 106 = .ok (.iload_n 3, 1) := by decide +kernel
theorem own_d8_107 : decode method_2_code 107 = .ok (.castore, 1) := by decide +kernel
theorem own_d8_108 : decode method_2_code 108 = .ok (.dup, 1) := by decide +kernel
theorem own_d8_109 : decode method_2_code 109 = .ok (.iconst 2, 1) := by decide +kernel
theorem own_d8_110 : decode method_2_code 110 = .ok (.iload 4, 2) := by decide +kernel
theorem own_d8_112 : decode method_2_code 112 = .ok (.castore, 1) := by decide +kernel
theorem own_d8_113 : decode method_2_code 113 = .ok (.invokespecial 9, 3) := by decide +kernel
theorem own_d8_116 : decode method_2_code 116 = .ok (.areturn, 1) := by decide +kernel
def own_Q_own_mk (Z : State) (p1 : Int32) (cs : Int32) (h0 : Heap) (n0 : Nat) (v : Option Value) (h : Heap) (L : List Loc) : Prop := ∃ b : Addr, v = some (.ref b) ∧ Fr n0 L ∧ (fun h => Keep h0 h [] ∧ own_S Z h b (own_cs p1)) h
set_option maxRecDepth 65536 in
set_option maxHeartbeats 40000000 in
theorem own_mk (l : Launch) (Z : State) (a0 : Array Value) (hw : ∀ d ∈ tables_1, d.before a0 Z = true) (ws : List Jvm.Cond) (p1 : Int32) (cs : Int32) (h0 : Heap) (n0 : Nat) (O0 : Old Z n0 h0) (SCS : Sta Z Z.heap "java/lang/String" "COMPACT_STRINGS" "Z" (.int cs)) (hcs : ¬ (cs = 0)) :
    MetFree l (⟨"com/example/tagwright/tagwright/diag/DiagnosticEqualsPinLaw", "mk", "(I)Ljava/lang/String;"⟩ : MethodName) (head1 (Jvm.Cond.code (⟨"com/example/tagwright/tagwright/diag/DiagnosticEqualsPinLaw", "mk", "(I)Ljava/lang/String;"⟩ : MethodName) method_2_code 5 (some (.object "java/lang/String")) :: ws) ({ frames := 5, cells := 6, slots := 12, locals := 90 } : Room)) (fun as' U => as' = #[(.int p1)] ∧ Z.Warmed39 U.vm ∧ U.heap = h0 ∧ CHv Z EL U.vm h0) (fun _ _ _ _ _ => True) (fun _ U o U' => ∃ v L, o = .returned v ∧ own_Q_own_mk Z p1 cs h0 n0 v U'.heap L ∧ CHr Z EL U.vm U.heap U'.vm U'.heap ∧ ReturnedEndW U o U' L ({ frames := 5, cells := 6, slots := 12, locals := 90 } : Room).cells ({ frames := 5, cells := 6, slots := 12, locals := 90 } : Room).slots) := by
  refine MetFree.of_bodySF (plainFor_of_name own_pn5) hisR ?_
  intro p e s m args below meth c s₁ Bd hml0 hP hK
  obtain ⟨rfl, hZ, hh, hCH⟩ := hP
  have hx := Bd.exec
  have hby := Bd.bytes
  have hml : c.maxLocals = 5 := hml0
  have hown : s.vm.findClass "com/example/tagwright/tagwright/diag/DiagnosticEqualsPinLaw" = some m.cls := findClass_of_methodNamed Bd.named
  have hnm := (name_of_methodNamed Bd.named Bd.method).1
  have X0 : Stand p l e ({ frames := 5, cells := 6, slots := 12, locals := 90 } : Room) (s.setVm s.vm) m #[(.int p1)] below meth c s₁ [] 0 0 := Stand.of_body Bd
  have e0 : s₁.heap = h0 := by rw [← hh, Bd.state]; rfl
  have N0 := Fr.nil n0
  show own_Fin p.tables e below (fun s₂ o => ∃ v L, o = .returned v ∧ own_Q_own_mk Z p1 cs h0 n0 v s₂.heap L ∧ CHr Z EL s.vm s.heap s₂.vm s₂.heap ∧ ReturnedEndW s o s₂ L ({ frames := 5, cells := 6, slots := 12, locals := 90 } : Room).cells ({ frames := 5, cells := 6, slots := 12, locals := 90 } : Room).slots) _
  generalize hG : (fun (s₂ : State) (o : Outcome) => ∃ v L, o = Outcome.returned v ∧ own_Q_own_mk Z p1 cs h0 n0 v s₂.heap L ∧ CHr Z EL s.vm s.heap s₂.vm s₂.heap ∧ ReturnedEndW s o s₂ L ({ frames := 5, cells := 6, slots := 12, locals := 90 } : Room).cells ({ frames := 5, cells := 6, slots := 12, locals := 90 } : Room).slots) = G
  have SS0 : s.Since s.vm h0.size := (State.WarmedH.refl s).since _
  have hk0 : h0.size ≤ h0.size := Nat.le_refl _
  have CH0 := CHr.refl hCH
  have hEL := own_EW hw
  have K0 := Keep.refl h0 []
  refine own_go (fun _ k => castTop (own_ef_own_mk m p1) k) ?_
  show own_Fin p.tables e below G (s₁.setTop (mkF m 0 #[.val (.int p1), .unset, .unset, .unset, .unset] []))
  refine own_go (fun _ k => XS.iloadN X0.here hx rfl (hb hby own_d8_0) rfl k) ?_
  show own_Fin p.tables e below G (s₁.setTop (mkF m 1 #[.val (.int p1), .unset, .unset, .unset, .unset] [(.int p1)]))
  refine own_go (fun _ k => XS.iconst X0.here hx rfl (hb hby own_d8_1)  k) ?_
  show own_Fin p.tables e below G (s₁.setTop (mkF m 2 #[.val (.int p1), .unset, .unset, .unset, .unset] [(.int (3 : Int32)), (.int p1)]))
  refine own_go (fun _ k => XS.iand X0.here hx rfl (hb hby own_d8_2) rfl k) ?_
  show own_Fin p.tables e below G (s₁.setTop (mkF m 3 #[.val (.int p1), .unset, .unset, .unset, .unset] [(.int (p1 &&& (3 : Int32)))]))
  refine own_go (fun _ k => XS.istoreN X0.here hx rfl (hb hby own_d8_3) rfl (l' := #[.val (.int p1), .val (.int (p1 &&& (3 : Int32))), .unset, .unset, .unset]) rfl k) ?_
  show own_Fin p.tables e below G (s₁.setTop (mkF m 4 #[.val (.int p1), .val (.int (p1 &&& (3 : Int32))), .unset, .unset, .unset] []))
  refine own_go (fun _ k => XS.iloadN X0.here hx rfl (hb hby own_d8_4) rfl k) ?_
  show own_Fin p.tables e below G (s₁.setTop (mkF m 5 #[.val (.int p1), .val (.int (p1 &&& (3 : Int32))), .unset, .unset, .unset] [(.int p1)]))
  refine own_go (fun _ k => XS.iconst X0.here hx rfl (hb hby own_d8_5)  k) ?_
  show own_Fin p.tables e below G (s₁.setTop (mkF m 6 #[.val (.int p1), .val (.int (p1 &&& (3 : Int32))), .unset, .unset, .unset] [(.int (2 : Int32)), (.int p1)]))
  refine own_go (fun _ k => XS.iushr X0.here hx rfl (hb hby own_d8_6) rfl k) ?_
  show own_Fin p.tables e below G (s₁.setTop (mkF m 7 #[.val (.int p1), .val (.int (p1 &&& (3 : Int32))), .unset, .unset, .unset] [(.int ((p1.toUInt32 >>> ((2 : Int32) &&& 31).toUInt32).toInt32))]))
  refine own_go (fun _ k => XS.sipush X0.here hx rfl (hb hby own_d8_7)  k) ?_
  show own_Fin p.tables e below G (s₁.setTop (mkF m 10 #[.val (.int p1), .val (.int (p1 &&& (3 : Int32))), .unset, .unset, .unset] [(.int (255 : Int32)), (.int ((p1.toUInt32 >>> ((2 : Int32) &&& 31).toUInt32).toInt32))]))
  refine own_go (fun _ k => XS.iand X0.here hx rfl (hb hby own_d8_10) rfl k) ?_
  show own_Fin p.tables e below G (s₁.setTop (mkF m 11 #[.val (.int p1), .val (.int (p1 &&& (3 : Int32))), .unset, .unset, .unset] [(.int (((p1.toUInt32 >>> ((2 : Int32) &&& 31).toUInt32).toInt32) &&& (255 : Int32)))]))
  refine own_go (fun _ k => XS.i2c X0.here hx rfl (hb hby own_d8_11) rfl k) ?_
  show own_Fin p.tables e below G (s₁.setTop (mkF m 12 #[.val (.int p1), .val (.int (p1 &&& (3 : Int32))), .unset, .unset, .unset] [(.int ((((p1.toUInt32 >>> ((2 : Int32) &&& 31).toUInt32).toInt32) &&& (255 : Int32)).toUInt32.toUInt16.toUInt32.toInt32))]))
  rw [i2c_mask]
  show own_Fin p.tables e below G (s₁.setTop (mkF m 12 #[.val (.int p1), .val (.int (p1 &&& (3 : Int32))), .unset, .unset, .unset] [(.int ((p1.toUInt32 >>> ((2 : Int32) &&& 31).toUInt32).toInt32 &&& (255 : Int32)))]))
  have b0 := own_b255 ((p1.toUInt32 >>> ((2 : Int32) &&& 31).toUInt32).toInt32)
  have m0 : nar .char ((p1.toUInt32 >>> ((2 : Int32) &&& 31).toUInt32).toInt32 &&& (255 : Int32)) = ((p1.toUInt32 >>> ((2 : Int32) &&& 31).toUInt32).toInt32 &&& (255 : Int32)) := i2c_mask _
  generalize hc0 : ((p1.toUInt32 >>> ((2 : Int32) &&& 31).toUInt32).toInt32 &&& (255 : Int32)) = c0 at b0 m0 ⊢
  refine own_go (fun _ k => XS.istoreN X0.here hx rfl (hb hby own_d8_12) rfl (l' := #[.val (.int p1), .val (.int (p1 &&& (3 : Int32))), .val (.int c0), .unset, .unset]) rfl k) ?_
  show own_Fin p.tables e below G (s₁.setTop (mkF m 13 #[.val (.int p1), .val (.int (p1 &&& (3 : Int32))), .val (.int c0), .unset, .unset] []))
  refine own_go (fun _ k => XS.iloadN X0.here hx rfl (hb hby own_d8_13) rfl k) ?_
  show own_Fin p.tables e below G (s₁.setTop (mkF m 14 #[.val (.int p1), .val (.int (p1 &&& (3 : Int32))), .val (.int c0), .unset, .unset] [(.int p1)]))
  refine own_go (fun _ k => XS.bipush X0.here hx rfl (hb hby own_d8_14)  k) ?_
  show own_Fin p.tables e below G (s₁.setTop (mkF m 16 #[.val (.int p1), .val (.int (p1 &&& (3 : Int32))), .val (.int c0), .unset, .unset] [(.int (10 : Int32)), (.int p1)]))
  refine own_go (fun _ k => XS.iushr X0.here hx rfl (hb hby own_d8_16) rfl k) ?_
  show own_Fin p.tables e below G (s₁.setTop (mkF m 17 #[.val (.int p1), .val (.int (p1 &&& (3 : Int32))), .val (.int c0), .unset, .unset] [(.int ((p1.toUInt32 >>> ((10 : Int32) &&& 31).toUInt32).toInt32))]))
  refine own_go (fun _ k => XS.sipush X0.here hx rfl (hb hby own_d8_17)  k) ?_
  show own_Fin p.tables e below G (s₁.setTop (mkF m 20 #[.val (.int p1), .val (.int (p1 &&& (3 : Int32))), .val (.int c0), .unset, .unset] [(.int (255 : Int32)), (.int ((p1.toUInt32 >>> ((10 : Int32) &&& 31).toUInt32).toInt32))]))
  refine own_go (fun _ k => XS.iand X0.here hx rfl (hb hby own_d8_20) rfl k) ?_
  show own_Fin p.tables e below G (s₁.setTop (mkF m 21 #[.val (.int p1), .val (.int (p1 &&& (3 : Int32))), .val (.int c0), .unset, .unset] [(.int (((p1.toUInt32 >>> ((10 : Int32) &&& 31).toUInt32).toInt32) &&& (255 : Int32)))]))
  refine own_go (fun _ k => XS.i2c X0.here hx rfl (hb hby own_d8_21) rfl k) ?_
  show own_Fin p.tables e below G (s₁.setTop (mkF m 22 #[.val (.int p1), .val (.int (p1 &&& (3 : Int32))), .val (.int c0), .unset, .unset] [(.int ((((p1.toUInt32 >>> ((10 : Int32) &&& 31).toUInt32).toInt32) &&& (255 : Int32)).toUInt32.toUInt16.toUInt32.toInt32))]))
  rw [i2c_mask]
  show own_Fin p.tables e below G (s₁.setTop (mkF m 22 #[.val (.int p1), .val (.int (p1 &&& (3 : Int32))), .val (.int c0), .unset, .unset] [(.int ((p1.toUInt32 >>> ((10 : Int32) &&& 31).toUInt32).toInt32 &&& (255 : Int32)))]))
  have b1 := own_b255 ((p1.toUInt32 >>> ((10 : Int32) &&& 31).toUInt32).toInt32)
  have m1 : nar .char ((p1.toUInt32 >>> ((10 : Int32) &&& 31).toUInt32).toInt32 &&& (255 : Int32)) = ((p1.toUInt32 >>> ((10 : Int32) &&& 31).toUInt32).toInt32 &&& (255 : Int32)) := i2c_mask _
  generalize hc1 : ((p1.toUInt32 >>> ((10 : Int32) &&& 31).toUInt32).toInt32 &&& (255 : Int32)) = c1 at b1 m1 ⊢
  refine own_go (fun _ k => XS.istoreN X0.here hx rfl (hb hby own_d8_22) rfl (l' := #[.val (.int p1), .val (.int (p1 &&& (3 : Int32))), .val (.int c0), .val (.int c1), .unset]) rfl k) ?_
  show own_Fin p.tables e below G (s₁.setTop (mkF m 23 #[.val (.int p1), .val (.int (p1 &&& (3 : Int32))), .val (.int c0), .val (.int c1), .unset] []))
  refine own_go (fun _ k => XS.iloadN X0.here hx rfl (hb hby own_d8_23) rfl k) ?_
  show own_Fin p.tables e below G (s₁.setTop (mkF m 24 #[.val (.int p1), .val (.int (p1 &&& (3 : Int32))), .val (.int c0), .val (.int c1), .unset] [(.int p1)]))
  refine own_go (fun _ k => XS.bipush X0.here hx rfl (hb hby own_d8_24)  k) ?_
  show own_Fin p.tables e below G (s₁.setTop (mkF m 26 #[.val (.int p1), .val (.int (p1 &&& (3 : Int32))), .val (.int c0), .val (.int c1), .unset] [(.int (18 : Int32)), (.int p1)]))
  refine own_go (fun _ k => XS.iushr X0.here hx rfl (hb hby own_d8_26) rfl k) ?_
  show own_Fin p.tables e below G (s₁.setTop (mkF m 27 #[.val (.int p1), .val (.int (p1 &&& (3 : Int32))), .val (.int c0), .val (.int c1), .unset] [(.int ((p1.toUInt32 >>> ((18 : Int32) &&& 31).toUInt32).toInt32))]))
  refine own_go (fun _ k => XS.sipush X0.here hx rfl (hb hby own_d8_27)  k) ?_
  show own_Fin p.tables e below G (s₁.setTop (mkF m 30 #[.val (.int p1), .val (.int (p1 &&& (3 : Int32))), .val (.int c0), .val (.int c1), .unset] [(.int (255 : Int32)), (.int ((p1.toUInt32 >>> ((18 : Int32) &&& 31).toUInt32).toInt32))]))
  refine own_go (fun _ k => XS.iand X0.here hx rfl (hb hby own_d8_30) rfl k) ?_
  show own_Fin p.tables e below G (s₁.setTop (mkF m 31 #[.val (.int p1), .val (.int (p1 &&& (3 : Int32))), .val (.int c0), .val (.int c1), .unset] [(.int (((p1.toUInt32 >>> ((18 : Int32) &&& 31).toUInt32).toInt32) &&& (255 : Int32)))]))
  refine own_go (fun _ k => XS.i2c X0.here hx rfl (hb hby own_d8_31) rfl k) ?_
  show own_Fin p.tables e below G (s₁.setTop (mkF m 32 #[.val (.int p1), .val (.int (p1 &&& (3 : Int32))), .val (.int c0), .val (.int c1), .unset] [(.int ((((p1.toUInt32 >>> ((18 : Int32) &&& 31).toUInt32).toInt32) &&& (255 : Int32)).toUInt32.toUInt16.toUInt32.toInt32))]))
  rw [i2c_mask]
  show own_Fin p.tables e below G (s₁.setTop (mkF m 32 #[.val (.int p1), .val (.int (p1 &&& (3 : Int32))), .val (.int c0), .val (.int c1), .unset] [(.int ((p1.toUInt32 >>> ((18 : Int32) &&& 31).toUInt32).toInt32 &&& (255 : Int32)))]))
  have b2 := own_b255 ((p1.toUInt32 >>> ((18 : Int32) &&& 31).toUInt32).toInt32)
  have m2 : nar .char ((p1.toUInt32 >>> ((18 : Int32) &&& 31).toUInt32).toInt32 &&& (255 : Int32)) = ((p1.toUInt32 >>> ((18 : Int32) &&& 31).toUInt32).toInt32 &&& (255 : Int32)) := i2c_mask _
  generalize hc2 : ((p1.toUInt32 >>> ((18 : Int32) &&& 31).toUInt32).toInt32 &&& (255 : Int32)) = c2 at b2 m2 ⊢
  refine own_go (fun _ k => XS.istore X0.here hx rfl (hb hby own_d8_32) rfl (l' := #[.val (.int p1), .val (.int (p1 &&& (3 : Int32))), .val (.int c0), .val (.int c1), .val (.int c2)]) rfl k) ?_
  show own_Fin p.tables e below G (s₁.setTop (mkF m 34 #[.val (.int p1), .val (.int (p1 &&& (3 : Int32))), .val (.int c0), .val (.int c1), .val (.int c2)] []))
  refine own_go (fun _ k => XS.iloadN X0.here hx rfl (hb hby own_d8_34) rfl k) ?_
  show own_Fin p.tables e below G (s₁.setTop (mkF m 35 #[.val (.int p1), .val (.int (p1 &&& (3 : Int32))), .val (.int c0), .val (.int c1), .val (.int c2)] [(.int (p1 &&& (3 : Int32)))]))
  skip
  by_cases hl0 : (p1 &&& (3 : Int32)) = 0
  · refine own_go (fun _ k => XS.ifNo X0.here hx rfl (hb hby own_d8_35) rfl (Jvm.Free.XT.i0_ne_f hl0) k) ?_
    show own_Fin p.tables e below G (s₁.setTop (mkF m 38 #[.val (.int p1), .val (.int (p1 &&& (3 : Int32))), .val (.int c0), .val (.int c1), .val (.int c2)] []))
    obtain ⟨T157, h157, X157, e157, E157, A157, D157, -, st157⟩ := newO X0 hx hZ hown (own_at hw 4 rfl) (own_at hw 5 rfl) (own_at hw 6 rfl) e0 (g := (mkF m 38 #[.val (.int p1), .val (.int (p1 &&& (3 : Int32))), .val (.int c0), .val (.int c1), .val (.int c2)] [])) rfl (hb hby own_d8_38) (by decide) (by decide)
    obtain ⟨b157, g157⟩ : ∃ z, z = h0.size := ⟨_, rfl⟩
    rw [← g157] at A157 D157 st157
    refine own_go st157 ?_
    have gn_b157 : n0 ≤ b157 := Nat.le_trans (own_size O0) (Nat.le_of_eq g157.symm)
    have gk_b157 : h0.size ≤ b157 := Nat.le_trans K0.1 (Nat.le_of_eq g157.symm)
    have sn_b157 : Safe Z EL  s.vm h0 b157 := Safe.new (Nat.le_of_eq g157.symm)
    have O158 := O0.ext E157
    have K159 := K0.ext E157
    have hk160 := Nat.le_trans hk0 E157.1
    have sf161 := Safe.ext E157 CH0.1 sn_b157
    have CH162 := CH0.trans (CHr.ext E157 CH0.1)
    have F163 : Fld Z h157 b157 "java/lang/String" "value" "[B" .null := D157 (Or.inr (own_at hw 20 rfl)) (ty := (.array .byte)) (by decide)
    have F164 : Fld Z h157 b157 "java/lang/String" "coder" "B" (.int (0 : Int32)) := D157 (Or.inr (own_at hw 21 rfl)) (ty := .byte) (by decide)
    show own_Fin p.tables e below G (T157.setTop (mkF m 41 #[.val (.int p1), .val (.int (p1 &&& (3 : Int32))), .val (.int c0), .val (.int c1), .val (.int c2)] [(.ref b157)]))
    refine own_go (fun _ k => XS.dup X157.here hx rfl (hb hby own_d8_41) rfl rfl k) ?_
    show own_Fin p.tables e below G (T157.setTop (mkF m 42 #[.val (.int p1), .val (.int (p1 &&& (3 : Int32))), .val (.int c0), .val (.int c1), .val (.int c2)] [(.ref b157), (.ref b157)]))
    refine own_go (fun _ k => XS.iconst X157.here hx rfl (hb hby own_d8_42)  k) ?_
    show own_Fin p.tables e below G (T157.setTop (mkF m 43 #[.val (.int p1), .val (.int (p1 &&& (3 : Int32))), .val (.int c0), .val (.int c1), .val (.int c2)] [(.int (0 : Int32)), (.ref b157), (.ref b157)]))
    obtain ⟨T165, h165, k165, X165, e165, E165, A165, st165⟩ := newP X157 hx hZ (own_at hw 7 rfl) e157 (g := (mkF m 43 #[.val (.int p1), .val (.int (p1 &&& (3 : Int32))), .val (.int c0), .val (.int c1), .val (.int c2)] [(.int (0 : Int32)), (.ref b157), (.ref b157)])) rfl (hb hby own_d8_43) rfl (by decide) (cap := 0) (by decide) (by decide) (by decide) (by decide)
    obtain ⟨b165, g165⟩ : ∃ z, z = h157.size := ⟨_, rfl⟩
    rw [← g165] at A165 st165
    refine own_go st165 ?_
    have gn_b165 : n0 ≤ b165 := Nat.le_trans (own_size O158) (Nat.le_of_eq g165.symm)
    have gk_b165 : h0.size ≤ b165 := Nat.le_trans K159.1 (Nat.le_of_eq g165.symm)
    have sn_b165 : Safe Z EL  s.vm h157 b165 := Safe.new (Nat.le_of_eq g165.symm)
    have ne_b157_b165 : b157 ≠ b165 := Nat.ne_of_lt (Nat.lt_of_lt_of_le A157.lt (Nat.le_of_eq g165.symm))
    have V_b165 := Arv.new A165 (by decide)
    have F166 := F163.ext E165
    have F167 := F164.ext E165
    have E168 := A157.ext E165
    have O169 := O158.ext E165
    have K170 := K159.ext E165
    have hk171 := Nat.le_trans hk160 E165.1
    have sf172 := Safe.ext E165 CH162.1 sf161
    have sf173 := Safe.ext E165 CH162.1 sn_b165
    have CH174 := CH162.trans (CHr.ext E165 CH162.1)
    show own_Fin p.tables e below G (T165.setTop (mkF m 45 #[.val (.int p1), .val (.int (p1 &&& (3 : Int32))), .val (.int c0), .val (.int c1), .val (.int c2)] [(.ref b165), (.ref b157), (.ref b157)]))
    obtain ⟨_, _, ⟨T175, L175, k175, n175⟩, -, X175, S175, gs175, ⟨Lc175, hQ175, l175, y175, z175, R175⟩, st175⟩ := X165.specialBackS hx (y := (⟨"java/lang/String", "<init>", "([C)V"⟩ : MethodName)) rfl hown (mvT hZ (own_at hw 8 rfl)) (mvT hZ (own_at hw 9 rfl)) (mvT hZ (own_at hw 10 rfl)) (by decide) (backOfSH (W := 1) (own_s1 l Z a0 hw [] b157 b165 (newA k165 (newarray.typeOf .char) (0 : Int32)) h165 n0 O169 E168 F166 F167 gn_b157 A165 rfl) hZ (own_at hw 10 rfl) (own_at hw 6 rfl) (by decide) (by decide) hEL CH174.1) (g := (mkF m 45 #[.val (.int p1), .val (.int (p1 &&& (3 : Int32))), .val (.int c0), .val (.int c1), .val (.int c2)] [(.ref b165), (.ref b157), (.ref b157)])) rfl (by rw [hml]; rfl) (Steps.refl _) (a := b157) (argsL := [(.ref b165)]) (rest := [(.ref b157)]) (lenOf own_pd5 rfl) rfl (by show 2 * 0 + _ ≤ _; exact Nat.le_of_eq rfl) (hb hby own_d8_45) (fun _ _ => ⟨rfl, e165, (by decide : 2 + 4 ≤ _), (by decide : 4 + 8 ≤ _)⟩)
    dsimp only [Pt.U, Pt.locs, Pt.cells, Pt.slots] at X175 l175 y175 z175 st175 hQ175 S175 gs175 R175
    subst l175 y175 z175
    have SS175 := foldS SS0 (own_hk e165 hk171) S175 gs175
    have hZ175 := own_rebZ hZ S175
    have hown175 := own_rebO hown S175
    have hkk175 : T175.heap.size ≤ T175.heap.size := Nat.le_refl _
    have X175 : Stand p l e ({ frames := 5, cells := 6, slots := 12, locals := 90 } : Room) (s.setVm T175.vm) m #[(.int p1)] below meth c T175 _ _ _ := X175
    have sf176 := CHr.safe R175 E168.lt sf172
    have CH177 := CH174.trans R175
    obtain ⟨rfl, N175q, K175, Sx175⟩ := hQ175
    have N175 := Fr.app N0 N175q
    have E178 := E168.keep K175
    have O179 := O169.keep K175 (allS gn_b157 all0)
    have K180 := K170.trans K175 (allS (Or.inr gk_b157) all0)
    refine own_go (fun _ k => st175.trans k) ?_
    show own_Fin p.tables e below G (T175.setTop (mkF m 48 #[.val (.int p1), .val (.int (p1 &&& (3 : Int32))), .val (.int c0), .val (.int c1), .val (.int c2)] [(.ref b157)]))
    subst hG
    exact own_rvH X175 SS175 (own_hk (rfl : T175.heap = T175.heap) hkk175) hZ175 hEL hh (rfl : T175.heap = T175.heap) CH177 hx (t := (.object "java/lang/String")) Bd.returns rfl (Or.inr (Or.inr (Or.inr (Or.inr ⟨rfl, rfl, rfl⟩)))) (hb hby own_d8_48) Bd.notSynchronized (by decide) (by decide) ⟨b157, rfl, N175, (by exact ⟨K180, by rw [show own_cs p1 = [] by unfold own_cs; rw [if_pos hl0]]; exact Sx175⟩)⟩
  · refine own_go (fun _ k => XS.ifYes X0.here hx rfl (pc0 := 35) (pc' := 49) rfl (hb hby own_d8_35) rfl (Jvm.Free.XT.i0_ne_t hl0) (by decide) (by decide) k) ?_
    show own_Fin p.tables e below G (s₁.setTop (mkF m 49 #[.val (.int p1), .val (.int (p1 &&& (3 : Int32))), .val (.int c0), .val (.int c1), .val (.int c2)] []))
    refine own_go (fun _ k => XS.iloadN X0.here hx rfl (hb hby own_d8_49) rfl k) ?_
    show own_Fin p.tables e below G (s₁.setTop (mkF m 50 #[.val (.int p1), .val (.int (p1 &&& (3 : Int32))), .val (.int c0), .val (.int c1), .val (.int c2)] [(.int (p1 &&& (3 : Int32)))]))
    refine own_go (fun _ k => XS.iconst X0.here hx rfl (hb hby own_d8_50)  k) ?_
    show own_Fin p.tables e below G (s₁.setTop (mkF m 51 #[.val (.int p1), .val (.int (p1 &&& (3 : Int32))), .val (.int c0), .val (.int c1), .val (.int c2)] [(.int (1 : Int32)), (.int (p1 &&& (3 : Int32)))]))
    by_cases hl1 : (p1 &&& (3 : Int32)) = (1 : Int32)
    · refine own_go (fun _ k => XS.icmpNo X0.here hx rfl (hb hby own_d8_51) rfl (Jvm.Free.XT.ii_ne_f hl1) k) ?_
      show own_Fin p.tables e below G (s₁.setTop (mkF m 54 #[.val (.int p1), .val (.int (p1 &&& (3 : Int32))), .val (.int c0), .val (.int c1), .val (.int c2)] []))
      obtain ⟨T181, h181, X181, e181, E181, A181, D181, -, st181⟩ := newO X0 hx hZ hown (own_at hw 4 rfl) (own_at hw 5 rfl) (own_at hw 6 rfl) e0 (g := (mkF m 54 #[.val (.int p1), .val (.int (p1 &&& (3 : Int32))), .val (.int c0), .val (.int c1), .val (.int c2)] [])) rfl (hb hby own_d8_54) (by decide) (by decide)
      obtain ⟨b181, g181⟩ : ∃ z, z = h0.size := ⟨_, rfl⟩
      rw [← g181] at A181 D181 st181
      refine own_go st181 ?_
      have gn_b181 : n0 ≤ b181 := Nat.le_trans (own_size O0) (Nat.le_of_eq g181.symm)
      have gk_b181 : h0.size ≤ b181 := Nat.le_trans K0.1 (Nat.le_of_eq g181.symm)
      have sn_b181 : Safe Z EL  s.vm h0 b181 := Safe.new (Nat.le_of_eq g181.symm)
      have O182 := O0.ext E181
      have K183 := K0.ext E181
      have hk184 := Nat.le_trans hk0 E181.1
      have sf185 := Safe.ext E181 CH0.1 sn_b181
      have CH186 := CH0.trans (CHr.ext E181 CH0.1)
      have F187 : Fld Z h181 b181 "java/lang/String" "value" "[B" .null := D181 (Or.inr (own_at hw 20 rfl)) (ty := (.array .byte)) (by decide)
      have F188 : Fld Z h181 b181 "java/lang/String" "coder" "B" (.int (0 : Int32)) := D181 (Or.inr (own_at hw 21 rfl)) (ty := .byte) (by decide)
      show own_Fin p.tables e below G (T181.setTop (mkF m 57 #[.val (.int p1), .val (.int (p1 &&& (3 : Int32))), .val (.int c0), .val (.int c1), .val (.int c2)] [(.ref b181)]))
      refine own_go (fun _ k => XS.dup X181.here hx rfl (hb hby own_d8_57) rfl rfl k) ?_
      show own_Fin p.tables e below G (T181.setTop (mkF m 58 #[.val (.int p1), .val (.int (p1 &&& (3 : Int32))), .val (.int c0), .val (.int c1), .val (.int c2)] [(.ref b181), (.ref b181)]))
      refine own_go (fun _ k => XS.iconst X181.here hx rfl (hb hby own_d8_58)  k) ?_
      show own_Fin p.tables e below G (T181.setTop (mkF m 59 #[.val (.int p1), .val (.int (p1 &&& (3 : Int32))), .val (.int c0), .val (.int c1), .val (.int c2)] [(.int (1 : Int32)), (.ref b181), (.ref b181)]))
      obtain ⟨T189, h189, k189, X189, e189, E189, A189, st189⟩ := newP X181 hx hZ (own_at hw 7 rfl) e181 (g := (mkF m 59 #[.val (.int p1), .val (.int (p1 &&& (3 : Int32))), .val (.int c0), .val (.int c1), .val (.int c2)] [(.int (1 : Int32)), (.ref b181), (.ref b181)])) rfl (hb hby own_d8_59) rfl (by decide) (cap := 1) (by decide) (by decide) (by decide) (by decide)
      obtain ⟨b189, g189⟩ : ∃ z, z = h181.size := ⟨_, rfl⟩
      rw [← g189] at A189 st189
      refine own_go st189 ?_
      have gn_b189 : n0 ≤ b189 := Nat.le_trans (own_size O182) (Nat.le_of_eq g189.symm)
      have gk_b189 : h0.size ≤ b189 := Nat.le_trans K183.1 (Nat.le_of_eq g189.symm)
      have sn_b189 : Safe Z EL  s.vm h181 b189 := Safe.new (Nat.le_of_eq g189.symm)
      have ne_b181_b189 : b181 ≠ b189 := Nat.ne_of_lt (Nat.lt_of_lt_of_le A181.lt (Nat.le_of_eq g189.symm))
      have V_b189 := Arv.new A189 (by decide)
      have F190 := F187.ext E189
      have F191 := F188.ext E189
      have E192 := A181.ext E189
      have O193 := O182.ext E189
      have K194 := K183.ext E189
      have hk195 := Nat.le_trans hk184 E189.1
      have sf196 := Safe.ext E189 CH186.1 sf185
      have sf197 := Safe.ext E189 CH186.1 sn_b189
      have CH198 := CH186.trans (CHr.ext E189 CH186.1)
      show own_Fin p.tables e below G (T189.setTop (mkF m 61 #[.val (.int p1), .val (.int (p1 &&& (3 : Int32))), .val (.int c0), .val (.int c1), .val (.int c2)] [(.ref b189), (.ref b181), (.ref b181)]))
      have V0_b189 : Arv Z h189 b189 k189 .char (1 : Int32) [.int (0 : Int32)] (.int (0 : Int32)) := (Arv.new A189 (by decide)).pad (pad_rep [] (.int (0 : Int32)) 1)
      refine own_go (fun _ k => XS.dup X189.here hx rfl (hb hby own_d8_61) rfl rfl k) ?_
      show own_Fin p.tables e below G (T189.setTop (mkF m 62 #[.val (.int p1), .val (.int (p1 &&& (3 : Int32))), .val (.int c0), .val (.int c1), .val (.int c2)] [(.ref b189), (.ref b189), (.ref b181), (.ref b181)]))
      refine own_go (fun _ k => XS.iconst X189.here hx rfl (hb hby own_d8_62)  k) ?_
      show own_Fin p.tables e below G (T189.setTop (mkF m 63 #[.val (.int p1), .val (.int (p1 &&& (3 : Int32))), .val (.int c0), .val (.int c1), .val (.int c2)] [(.int (0 : Int32)), (.ref b189), (.ref b189), (.ref b181), (.ref b181)]))
      refine own_go (fun _ k => XS.iloadN X189.here hx rfl (hb hby own_d8_63) rfl k) ?_
      show own_Fin p.tables e below G (T189.setTop (mkF m 64 #[.val (.int p1), .val (.int (p1 &&& (3 : Int32))), .val (.int c0), .val (.int c1), .val (.int c2)] [(.int c0), (.int (0 : Int32)), (.ref b189), (.ref b189), (.ref b181), (.ref b181)]))
      obtain ⟨cl199, Ar199, q199, S199, Nn199, H199, G199⟩ := V0_b189
      have hin199 : ¬ ((0 : Int32) < 0 ∨ cl199.slots.size ≤ ((0 : Int32)).toNatClampNeg) := inb_of S199 ⟨by decide, by decide⟩
      obtain ⟨T199, h199, X199, e199, W199, st199⟩ := stC X189 hx hZ e189 Ar199 (j := (0 : Int32)) hin199 (g := (mkF m 64 #[.val (.int p1), .val (.int (p1 &&& (3 : Int32))), .val (.int c0), .val (.int c1), .val (.int c2)] [(.int c0), (.int (0 : Int32)), (.ref b189), (.ref b189), (.ref b181), (.ref b181)])) rfl rfl (hb hby own_d8_64)
      refine own_go st199 ?_
      have V199 := Arv.set Ar199 q199 S199 Nn199 H199 G199 (fits_nar_char _) W199 0 rfl (Nat.le_of_ble_eq_true rfl)
      rw [m0] at V199
      have F200 := F190.other W199 (Or.inl ne_b181_b189)
      have F201 := F191.other W199 (Or.inl ne_b181_b189)
      have E202 := E192.wr W199
      have O203 := O193.wr W199 gn_b189
      have K204 := K194.wr W199 (Or.inr gk_b189)
      have hk205 := Nat.le_trans hk195 (Keep.of_wr W199).1
      have sf206 := Safe.wr W199 sf197 CH198.1 sf196
      have sf207 := Safe.wr W199 sf197 CH198.1 sf197
      have CH208 := CH198.trans (CHr.wr W199 sf197 CH198.1)
      have N199 := Fr.snoc X199 N0 gn_b189
      show own_Fin p.tables e below G (T199.setTop (mkF m 65 #[.val (.int p1), .val (.int (p1 &&& (3 : Int32))), .val (.int c0), .val (.int c1), .val (.int c2)] [(.ref b189), (.ref b181), (.ref b181)]))
      have hp : ∀ c ∈ ([c0] : List Int32), ¬ c < 0 ∧ ¬ (255 : Int32) < c := by intro c hc; simp only [List.mem_cons, List.not_mem_nil, or_false] at hc; rcases hc with rfl ; assumption
      obtain ⟨_, _, ⟨T209, L209, k209, n209⟩, -, X209, ⟨Lc209, hQ209, l209, y209, z209⟩, st209⟩ := X199.specialBack hx (y := (⟨"java/lang/String", "<init>", "([C)V"⟩ : MethodName)) rfl hown (mvT hZ (own_at hw 8 rfl)) (mvT hZ (own_at hw 9 rfl)) (mvT hZ (own_at hw 10 rfl)) (by decide) (StrChars.Road.backV (W := 1) hZ (own_wst hw) (kI := 4) (own_at hw 5 rfl) (cs := ([c0] : List Int32)) (bs := ([c0] : List Int32).map (fun c => c.toInt8.toInt32)) (n := 1) gn_b181 (own_size O203) E202 F200 F201 V199 (SCS.ext O203.2) hcs rfl rfl (by decide) (by decide) hp rfl (by decide) (by decide)) (g := (mkF m 65 #[.val (.int p1), .val (.int (p1 &&& (3 : Int32))), .val (.int c0), .val (.int c1), .val (.int c2)] [(.ref b189), (.ref b181), (.ref b181)])) rfl (by rw [hml]; rfl) (Steps.refl _) (a := b181) (argsL := [(.ref b189)]) (rest := [(.ref b181)]) (lenOf own_pd5 rfl) rfl (by show 2 * 0 + _ ≤ _; exact Nat.le_of_eq rfl) (hb hby own_d8_65) (fun _ _ => ⟨rfl, e199, (by decide : 2 + 1 ≤ _), (by decide : 5 + 1 ≤ _)⟩)
      dsimp only [Pt.U, Pt.locs, Pt.cells, Pt.slots] at X209 l209 y209 z209 st209 hQ209
      subst l209 y209 z209
      obtain ⟨rfl, N209q, K209, Ew209, FC209, tb209, kb209, -, -, -, FV209, AV209⟩ := hQ209
      have N209 := Fr.app N199 N209q
      have E210 := E202.keep K209
      have O211 := O203.keep K209 (allS gn_b181 all0)
      have K212 := K204.trans K209 (allS (Or.inr gk_b181) all0)
      have hk213 := Nat.le_trans hk205 K209.1
      have sf214 := Safe.keep K209 (sfS sf206 sf0) CH208.1 sf206
      have sf215 := Safe.keep K209 (sfS sf206 sf0) CH208.1 sf207
      have CH216 := CH208.trans (CHr.keep K209 (sfS sf206 sf0) CH208.1)
      refine own_go (fun _ k => st209.trans k) ?_
      show own_Fin p.tables e below G (T209.setTop (mkF m 68 #[.val (.int p1), .val (.int (p1 &&& (3 : Int32))), .val (.int c0), .val (.int c1), .val (.int c2)] [(.ref b181)]))
      have Sx209 : own_S Z T209.heap b181 [c0] := ⟨_, _, Ew209, FC209, FV209, AV209, hp, Nat.le_of_ble_eq_true rfl⟩
      subst hG
      exact own_rvH X209 SS0 (own_hk (rfl : T209.heap = T209.heap) hk213) hZ hEL hh (rfl : T209.heap = T209.heap) CH216 hx (t := (.object "java/lang/String")) Bd.returns rfl (Or.inr (Or.inr (Or.inr (Or.inr ⟨rfl, rfl, rfl⟩)))) (hb hby own_d8_68) Bd.notSynchronized (by decide) (by decide) ⟨b181, rfl, N209, (by exact ⟨K212, by rw [show own_cs p1 = [c0] by unfold own_cs; rw [if_neg hl0, if_pos hl1, hc0]]; exact Sx209⟩)⟩
    · refine own_go (fun _ k => XS.icmpYes X0.here hx rfl (pc0 := 51) (pc' := 69) rfl (hb hby own_d8_51) rfl (Jvm.Free.XT.ii_ne_t hl1) (by decide) (by decide) k) ?_
      show own_Fin p.tables e below G (s₁.setTop (mkF m 69 #[.val (.int p1), .val (.int (p1 &&& (3 : Int32))), .val (.int c0), .val (.int c1), .val (.int c2)] []))
      refine own_go (fun _ k => XS.iloadN X0.here hx rfl (hb hby own_d8_69) rfl k) ?_
      show own_Fin p.tables e below G (s₁.setTop (mkF m 70 #[.val (.int p1), .val (.int (p1 &&& (3 : Int32))), .val (.int c0), .val (.int c1), .val (.int c2)] [(.int (p1 &&& (3 : Int32)))]))
      refine own_go (fun _ k => XS.iconst X0.here hx rfl (hb hby own_d8_70)  k) ?_
      show own_Fin p.tables e below G (s₁.setTop (mkF m 71 #[.val (.int p1), .val (.int (p1 &&& (3 : Int32))), .val (.int c0), .val (.int c1), .val (.int c2)] [(.int (2 : Int32)), (.int (p1 &&& (3 : Int32)))]))
      by_cases hl2 : (p1 &&& (3 : Int32)) = (2 : Int32)
      · refine own_go (fun _ k => XS.icmpNo X0.here hx rfl (hb hby own_d8_71) rfl (Jvm.Free.XT.ii_ne_f hl2) k) ?_
        show own_Fin p.tables e below G (s₁.setTop (mkF m 74 #[.val (.int p1), .val (.int (p1 &&& (3 : Int32))), .val (.int c0), .val (.int c1), .val (.int c2)] []))
        obtain ⟨T217, h217, X217, e217, E217, A217, D217, -, st217⟩ := newO X0 hx hZ hown (own_at hw 4 rfl) (own_at hw 5 rfl) (own_at hw 6 rfl) e0 (g := (mkF m 74 #[.val (.int p1), .val (.int (p1 &&& (3 : Int32))), .val (.int c0), .val (.int c1), .val (.int c2)] [])) rfl (hb hby own_d8_74) (by decide) (by decide)
        obtain ⟨b217, g217⟩ : ∃ z, z = h0.size := ⟨_, rfl⟩
        rw [← g217] at A217 D217 st217
        refine own_go st217 ?_
        have gn_b217 : n0 ≤ b217 := Nat.le_trans (own_size O0) (Nat.le_of_eq g217.symm)
        have gk_b217 : h0.size ≤ b217 := Nat.le_trans K0.1 (Nat.le_of_eq g217.symm)
        have sn_b217 : Safe Z EL  s.vm h0 b217 := Safe.new (Nat.le_of_eq g217.symm)
        have O218 := O0.ext E217
        have K219 := K0.ext E217
        have hk220 := Nat.le_trans hk0 E217.1
        have sf221 := Safe.ext E217 CH0.1 sn_b217
        have CH222 := CH0.trans (CHr.ext E217 CH0.1)
        have F223 : Fld Z h217 b217 "java/lang/String" "value" "[B" .null := D217 (Or.inr (own_at hw 20 rfl)) (ty := (.array .byte)) (by decide)
        have F224 : Fld Z h217 b217 "java/lang/String" "coder" "B" (.int (0 : Int32)) := D217 (Or.inr (own_at hw 21 rfl)) (ty := .byte) (by decide)
        show own_Fin p.tables e below G (T217.setTop (mkF m 77 #[.val (.int p1), .val (.int (p1 &&& (3 : Int32))), .val (.int c0), .val (.int c1), .val (.int c2)] [(.ref b217)]))
        refine own_go (fun _ k => XS.dup X217.here hx rfl (hb hby own_d8_77) rfl rfl k) ?_
        show own_Fin p.tables e below G (T217.setTop (mkF m 78 #[.val (.int p1), .val (.int (p1 &&& (3 : Int32))), .val (.int c0), .val (.int c1), .val (.int c2)] [(.ref b217), (.ref b217)]))
        refine own_go (fun _ k => XS.iconst X217.here hx rfl (hb hby own_d8_78)  k) ?_
        show own_Fin p.tables e below G (T217.setTop (mkF m 79 #[.val (.int p1), .val (.int (p1 &&& (3 : Int32))), .val (.int c0), .val (.int c1), .val (.int c2)] [(.int (2 : Int32)), (.ref b217), (.ref b217)]))
        obtain ⟨T225, h225, k225, X225, e225, E225, A225, st225⟩ := newP X217 hx hZ (own_at hw 7 rfl) e217 (g := (mkF m 79 #[.val (.int p1), .val (.int (p1 &&& (3 : Int32))), .val (.int c0), .val (.int c1), .val (.int c2)] [(.int (2 : Int32)), (.ref b217), (.ref b217)])) rfl (hb hby own_d8_79) rfl (by decide) (cap := 2) (by decide) (by decide) (by decide) (by decide)
        obtain ⟨b225, g225⟩ : ∃ z, z = h217.size := ⟨_, rfl⟩
        rw [← g225] at A225 st225
        refine own_go st225 ?_
        have gn_b225 : n0 ≤ b225 := Nat.le_trans (own_size O218) (Nat.le_of_eq g225.symm)
        have gk_b225 : h0.size ≤ b225 := Nat.le_trans K219.1 (Nat.le_of_eq g225.symm)
        have sn_b225 : Safe Z EL  s.vm h217 b225 := Safe.new (Nat.le_of_eq g225.symm)
        have ne_b217_b225 : b217 ≠ b225 := Nat.ne_of_lt (Nat.lt_of_lt_of_le A217.lt (Nat.le_of_eq g225.symm))
        have V_b225 := Arv.new A225 (by decide)
        have F226 := F223.ext E225
        have F227 := F224.ext E225
        have E228 := A217.ext E225
        have O229 := O218.ext E225
        have K230 := K219.ext E225
        have hk231 := Nat.le_trans hk220 E225.1
        have sf232 := Safe.ext E225 CH222.1 sf221
        have sf233 := Safe.ext E225 CH222.1 sn_b225
        have CH234 := CH222.trans (CHr.ext E225 CH222.1)
        show own_Fin p.tables e below G (T225.setTop (mkF m 81 #[.val (.int p1), .val (.int (p1 &&& (3 : Int32))), .val (.int c0), .val (.int c1), .val (.int c2)] [(.ref b225), (.ref b217), (.ref b217)]))
        have V0_b225 : Arv Z h225 b225 k225 .char (2 : Int32) [.int (0 : Int32), .int (0 : Int32)] (.int (0 : Int32)) := (Arv.new A225 (by decide)).pad (pad_rep [] (.int (0 : Int32)) 2)
        refine own_go (fun _ k => XS.dup X225.here hx rfl (hb hby own_d8_81) rfl rfl k) ?_
        show own_Fin p.tables e below G (T225.setTop (mkF m 82 #[.val (.int p1), .val (.int (p1 &&& (3 : Int32))), .val (.int c0), .val (.int c1), .val (.int c2)] [(.ref b225), (.ref b225), (.ref b217), (.ref b217)]))
        refine own_go (fun _ k => XS.iconst X225.here hx rfl (hb hby own_d8_82)  k) ?_
        show own_Fin p.tables e below G (T225.setTop (mkF m 83 #[.val (.int p1), .val (.int (p1 &&& (3 : Int32))), .val (.int c0), .val (.int c1), .val (.int c2)] [(.int (0 : Int32)), (.ref b225), (.ref b225), (.ref b217), (.ref b217)]))
        refine own_go (fun _ k => XS.iloadN X225.here hx rfl (hb hby own_d8_83) rfl k) ?_
        show own_Fin p.tables e below G (T225.setTop (mkF m 84 #[.val (.int p1), .val (.int (p1 &&& (3 : Int32))), .val (.int c0), .val (.int c1), .val (.int c2)] [(.int c0), (.int (0 : Int32)), (.ref b225), (.ref b225), (.ref b217), (.ref b217)]))
        obtain ⟨cl235, Ar235, q235, S235, Nn235, H235, G235⟩ := V0_b225
        have hin235 : ¬ ((0 : Int32) < 0 ∨ cl235.slots.size ≤ ((0 : Int32)).toNatClampNeg) := inb_of S235 ⟨by decide, by decide⟩
        obtain ⟨T235, h235, X235, e235, W235, st235⟩ := stC X225 hx hZ e225 Ar235 (j := (0 : Int32)) hin235 (g := (mkF m 84 #[.val (.int p1), .val (.int (p1 &&& (3 : Int32))), .val (.int c0), .val (.int c1), .val (.int c2)] [(.int c0), (.int (0 : Int32)), (.ref b225), (.ref b225), (.ref b217), (.ref b217)])) rfl rfl (hb hby own_d8_84)
        refine own_go st235 ?_
        have V235 := Arv.set Ar235 q235 S235 Nn235 H235 G235 (fits_nar_char _) W235 0 rfl (Nat.le_of_ble_eq_true rfl)
        rw [m0] at V235
        have F236 := F226.other W235 (Or.inl ne_b217_b225)
        have F237 := F227.other W235 (Or.inl ne_b217_b225)
        have E238 := E228.wr W235
        have O239 := O229.wr W235 gn_b225
        have K240 := K230.wr W235 (Or.inr gk_b225)
        have hk241 := Nat.le_trans hk231 (Keep.of_wr W235).1
        have sf242 := Safe.wr W235 sf233 CH234.1 sf232
        have sf243 := Safe.wr W235 sf233 CH234.1 sf233
        have CH244 := CH234.trans (CHr.wr W235 sf233 CH234.1)
        have N235 := Fr.snoc X235 N0 gn_b225
        show own_Fin p.tables e below G (T235.setTop (mkF m 85 #[.val (.int p1), .val (.int (p1 &&& (3 : Int32))), .val (.int c0), .val (.int c1), .val (.int c2)] [(.ref b225), (.ref b217), (.ref b217)]))
        refine own_go (fun _ k => XS.dup X235.here hx rfl (hb hby own_d8_85) rfl rfl k) ?_
        show own_Fin p.tables e below G (T235.setTop (mkF m 86 #[.val (.int p1), .val (.int (p1 &&& (3 : Int32))), .val (.int c0), .val (.int c1), .val (.int c2)] [(.ref b225), (.ref b225), (.ref b217), (.ref b217)]))
        refine own_go (fun _ k => XS.iconst X235.here hx rfl (hb hby own_d8_86)  k) ?_
        show own_Fin p.tables e below G (T235.setTop (mkF m 87 #[.val (.int p1), .val (.int (p1 &&& (3 : Int32))), .val (.int c0), .val (.int c1), .val (.int c2)] [(.int (1 : Int32)), (.ref b225), (.ref b225), (.ref b217), (.ref b217)]))
        refine own_go (fun _ k => XS.iloadN X235.here hx rfl (hb hby own_d8_87) rfl k) ?_
        show own_Fin p.tables e below G (T235.setTop (mkF m 88 #[.val (.int p1), .val (.int (p1 &&& (3 : Int32))), .val (.int c0), .val (.int c1), .val (.int c2)] [(.int c1), (.int (1 : Int32)), (.ref b225), (.ref b225), (.ref b217), (.ref b217)]))
        obtain ⟨cl245, Ar245, q245, S245, Nn245, H245, G245⟩ := V235
        have hin245 : ¬ ((1 : Int32) < 0 ∨ cl245.slots.size ≤ ((1 : Int32)).toNatClampNeg) := inb_of S245 ⟨by decide, by decide⟩
        obtain ⟨T245, h245, X245, e245, W245, st245⟩ := stC X235 hx hZ e235 Ar245 (j := (1 : Int32)) hin245 (g := (mkF m 88 #[.val (.int p1), .val (.int (p1 &&& (3 : Int32))), .val (.int c0), .val (.int c1), .val (.int c2)] [(.int c1), (.int (1 : Int32)), (.ref b225), (.ref b225), (.ref b217), (.ref b217)])) rfl rfl (hb hby own_d8_88)
        refine own_go st245 ?_
        have V245 := Arv.set Ar245 q245 S245 Nn245 H245 G245 (fits_nar_char _) W245 1 rfl (Nat.le_of_ble_eq_true rfl)
        rw [m1] at V245
        have F246 := F236.other W245 (Or.inl ne_b217_b225)
        have F247 := F237.other W245 (Or.inl ne_b217_b225)
        have E248 := E238.wr W245
        have O249 := O239.wr W245 gn_b225
        have K250 := K240.wr W245 (Or.inr gk_b225)
        have hk251 := Nat.le_trans hk241 (Keep.of_wr W245).1
        have sf252 := Safe.wr W245 sf243 CH244.1 sf242
        have sf253 := Safe.wr W245 sf243 CH244.1 sf243
        have CH254 := CH244.trans (CHr.wr W245 sf243 CH244.1)
        have N245 := Fr.snoc X245 N235 gn_b225
        show own_Fin p.tables e below G (T245.setTop (mkF m 89 #[.val (.int p1), .val (.int (p1 &&& (3 : Int32))), .val (.int c0), .val (.int c1), .val (.int c2)] [(.ref b225), (.ref b217), (.ref b217)]))
        have hp : ∀ c ∈ ([c0, c1] : List Int32), ¬ c < 0 ∧ ¬ (255 : Int32) < c := by intro c hc; simp only [List.mem_cons, List.not_mem_nil, or_false] at hc; rcases hc with rfl | rfl <;> assumption
        obtain ⟨_, _, ⟨T255, L255, k255, n255⟩, -, X255, ⟨Lc255, hQ255, l255, y255, z255⟩, st255⟩ := X245.specialBack hx (y := (⟨"java/lang/String", "<init>", "([C)V"⟩ : MethodName)) rfl hown (mvT hZ (own_at hw 8 rfl)) (mvT hZ (own_at hw 9 rfl)) (mvT hZ (own_at hw 10 rfl)) (by decide) (StrChars.Road.backV (W := 1) hZ (own_wst hw) (kI := 4) (own_at hw 5 rfl) (cs := ([c0, c1] : List Int32)) (bs := ([c0, c1] : List Int32).map (fun c => c.toInt8.toInt32)) (n := 2) gn_b217 (own_size O249) E248 F246 F247 V245 (SCS.ext O249.2) hcs rfl rfl (by decide) (by decide) hp rfl (by decide) (by decide)) (g := (mkF m 89 #[.val (.int p1), .val (.int (p1 &&& (3 : Int32))), .val (.int c0), .val (.int c1), .val (.int c2)] [(.ref b225), (.ref b217), (.ref b217)])) rfl (by rw [hml]; rfl) (Steps.refl _) (a := b217) (argsL := [(.ref b225)]) (rest := [(.ref b217)]) (lenOf own_pd5 rfl) rfl (by show 2 * 0 + _ ≤ _; exact Nat.le_of_eq rfl) (hb hby own_d8_89) (fun _ _ => ⟨rfl, e245, (by decide : 2 + 1 ≤ _), (by decide : 6 + 2 ≤ _)⟩)
        dsimp only [Pt.U, Pt.locs, Pt.cells, Pt.slots] at X255 l255 y255 z255 st255 hQ255
        subst l255 y255 z255
        obtain ⟨rfl, N255q, K255, Ew255, FC255, tb255, kb255, -, -, -, FV255, AV255⟩ := hQ255
        have N255 := Fr.app N245 N255q
        have E256 := E248.keep K255
        have O257 := O249.keep K255 (allS gn_b217 all0)
        have K258 := K250.trans K255 (allS (Or.inr gk_b217) all0)
        have hk259 := Nat.le_trans hk251 K255.1
        have sf260 := Safe.keep K255 (sfS sf252 sf0) CH254.1 sf252
        have sf261 := Safe.keep K255 (sfS sf252 sf0) CH254.1 sf253
        have CH262 := CH254.trans (CHr.keep K255 (sfS sf252 sf0) CH254.1)
        refine own_go (fun _ k => st255.trans k) ?_
        show own_Fin p.tables e below G (T255.setTop (mkF m 92 #[.val (.int p1), .val (.int (p1 &&& (3 : Int32))), .val (.int c0), .val (.int c1), .val (.int c2)] [(.ref b217)]))
        have Sx255 : own_S Z T255.heap b217 [c0, c1] := ⟨_, _, Ew255, FC255, FV255, AV255, hp, Nat.le_of_ble_eq_true rfl⟩
        subst hG
        exact own_rvH X255 SS0 (own_hk (rfl : T255.heap = T255.heap) hk259) hZ hEL hh (rfl : T255.heap = T255.heap) CH262 hx (t := (.object "java/lang/String")) Bd.returns rfl (Or.inr (Or.inr (Or.inr (Or.inr ⟨rfl, rfl, rfl⟩)))) (hb hby own_d8_92) Bd.notSynchronized (by decide) (by decide) ⟨b217, rfl, N255, (by exact ⟨K258, by rw [show own_cs p1 = [c0, c1] by unfold own_cs; rw [if_neg hl0, if_neg hl1, if_pos hl2, hc0, hc1]]; exact Sx255⟩)⟩
      · refine own_go (fun _ k => XS.icmpYes X0.here hx rfl (pc0 := 71) (pc' := 93) rfl (hb hby own_d8_71) rfl (Jvm.Free.XT.ii_ne_t hl2) (by decide) (by decide) k) ?_
        show own_Fin p.tables e below G (s₁.setTop (mkF m 93 #[.val (.int p1), .val (.int (p1 &&& (3 : Int32))), .val (.int c0), .val (.int c1), .val (.int c2)] []))
        obtain ⟨T263, h263, X263, e263, E263, A263, D263, -, st263⟩ := newO X0 hx hZ hown (own_at hw 4 rfl) (own_at hw 5 rfl) (own_at hw 6 rfl) e0 (g := (mkF m 93 #[.val (.int p1), .val (.int (p1 &&& (3 : Int32))), .val (.int c0), .val (.int c1), .val (.int c2)] [])) rfl (hb hby own_d8_93) (by decide) (by decide)
        obtain ⟨b263, g263⟩ : ∃ z, z = h0.size := ⟨_, rfl⟩
        rw [← g263] at A263 D263 st263
        refine own_go st263 ?_
        have gn_b263 : n0 ≤ b263 := Nat.le_trans (own_size O0) (Nat.le_of_eq g263.symm)
        have gk_b263 : h0.size ≤ b263 := Nat.le_trans K0.1 (Nat.le_of_eq g263.symm)
        have sn_b263 : Safe Z EL  s.vm h0 b263 := Safe.new (Nat.le_of_eq g263.symm)
        have O264 := O0.ext E263
        have K265 := K0.ext E263
        have hk266 := Nat.le_trans hk0 E263.1
        have sf267 := Safe.ext E263 CH0.1 sn_b263
        have CH268 := CH0.trans (CHr.ext E263 CH0.1)
        have F269 : Fld Z h263 b263 "java/lang/String" "value" "[B" .null := D263 (Or.inr (own_at hw 20 rfl)) (ty := (.array .byte)) (by decide)
        have F270 : Fld Z h263 b263 "java/lang/String" "coder" "B" (.int (0 : Int32)) := D263 (Or.inr (own_at hw 21 rfl)) (ty := .byte) (by decide)
        show own_Fin p.tables e below G (T263.setTop (mkF m 96 #[.val (.int p1), .val (.int (p1 &&& (3 : Int32))), .val (.int c0), .val (.int c1), .val (.int c2)] [(.ref b263)]))
        refine own_go (fun _ k => XS.dup X263.here hx rfl (hb hby own_d8_96) rfl rfl k) ?_
        show own_Fin p.tables e below G (T263.setTop (mkF m 97 #[.val (.int p1), .val (.int (p1 &&& (3 : Int32))), .val (.int c0), .val (.int c1), .val (.int c2)] [(.ref b263), (.ref b263)]))
        refine own_go (fun _ k => XS.iconst X263.here hx rfl (hb hby own_d8_97)  k) ?_
        show own_Fin p.tables e below G (T263.setTop (mkF m 98 #[.val (.int p1), .val (.int (p1 &&& (3 : Int32))), .val (.int c0), .val (.int c1), .val (.int c2)] [(.int (3 : Int32)), (.ref b263), (.ref b263)]))
        obtain ⟨T271, h271, k271, X271, e271, E271, A271, st271⟩ := newP X263 hx hZ (own_at hw 7 rfl) e263 (g := (mkF m 98 #[.val (.int p1), .val (.int (p1 &&& (3 : Int32))), .val (.int c0), .val (.int c1), .val (.int c2)] [(.int (3 : Int32)), (.ref b263), (.ref b263)])) rfl (hb hby own_d8_98) rfl (by decide) (cap := 3) (by decide) (by decide) (by decide) (by decide)
        obtain ⟨b271, g271⟩ : ∃ z, z = h263.size := ⟨_, rfl⟩
        rw [← g271] at A271 st271
        refine own_go st271 ?_
        have gn_b271 : n0 ≤ b271 := Nat.le_trans (own_size O264) (Nat.le_of_eq g271.symm)
        have gk_b271 : h0.size ≤ b271 := Nat.le_trans K265.1 (Nat.le_of_eq g271.symm)
        have sn_b271 : Safe Z EL  s.vm h263 b271 := Safe.new (Nat.le_of_eq g271.symm)
        have ne_b263_b271 : b263 ≠ b271 := Nat.ne_of_lt (Nat.lt_of_lt_of_le A263.lt (Nat.le_of_eq g271.symm))
        have V_b271 := Arv.new A271 (by decide)
        have F272 := F269.ext E271
        have F273 := F270.ext E271
        have E274 := A263.ext E271
        have O275 := O264.ext E271
        have K276 := K265.ext E271
        have hk277 := Nat.le_trans hk266 E271.1
        have sf278 := Safe.ext E271 CH268.1 sf267
        have sf279 := Safe.ext E271 CH268.1 sn_b271
        have CH280 := CH268.trans (CHr.ext E271 CH268.1)
        show own_Fin p.tables e below G (T271.setTop (mkF m 100 #[.val (.int p1), .val (.int (p1 &&& (3 : Int32))), .val (.int c0), .val (.int c1), .val (.int c2)] [(.ref b271), (.ref b263), (.ref b263)]))
        have V0_b271 : Arv Z h271 b271 k271 .char (3 : Int32) [.int (0 : Int32), .int (0 : Int32), .int (0 : Int32)] (.int (0 : Int32)) := (Arv.new A271 (by decide)).pad (pad_rep [] (.int (0 : Int32)) 3)
        refine own_go (fun _ k => XS.dup X271.here hx rfl (hb hby own_d8_100) rfl rfl k) ?_
        show own_Fin p.tables e below G (T271.setTop (mkF m 101 #[.val (.int p1), .val (.int (p1 &&& (3 : Int32))), .val (.int c0), .val (.int c1), .val (.int c2)] [(.ref b271), (.ref b271), (.ref b263), (.ref b263)]))
        refine own_go (fun _ k => XS.iconst X271.here hx rfl (hb hby own_d8_101)  k) ?_
        show own_Fin p.tables e below G (T271.setTop (mkF m 102 #[.val (.int p1), .val (.int (p1 &&& (3 : Int32))), .val (.int c0), .val (.int c1), .val (.int c2)] [(.int (0 : Int32)), (.ref b271), (.ref b271), (.ref b263), (.ref b263)]))
        refine own_go (fun _ k => XS.iloadN X271.here hx rfl (hb hby own_d8_102) rfl k) ?_
        show own_Fin p.tables e below G (T271.setTop (mkF m 103 #[.val (.int p1), .val (.int (p1 &&& (3 : Int32))), .val (.int c0), .val (.int c1), .val (.int c2)] [(.int c0), (.int (0 : Int32)), (.ref b271), (.ref b271), (.ref b263), (.ref b263)]))
        obtain ⟨cl281, Ar281, q281, S281, Nn281, H281, G281⟩ := V0_b271
        have hin281 : ¬ ((0 : Int32) < 0 ∨ cl281.slots.size ≤ ((0 : Int32)).toNatClampNeg) := inb_of S281 ⟨by decide, by decide⟩
        obtain ⟨T281, h281, X281, e281, W281, st281⟩ := stC X271 hx hZ e271 Ar281 (j := (0 : Int32)) hin281 (g := (mkF m 103 #[.val (.int p1), .val (.int (p1 &&& (3 : Int32))), .val (.int c0), .val (.int c1), .val (.int c2)] [(.int c0), (.int (0 : Int32)), (.ref b271), (.ref b271), (.ref b263), (.ref b263)])) rfl rfl (hb hby own_d8_103)
        refine own_go st281 ?_
        have V281 := Arv.set Ar281 q281 S281 Nn281 H281 G281 (fits_nar_char _) W281 0 rfl (Nat.le_of_ble_eq_true rfl)
        rw [m0] at V281
        have F282 := F272.other W281 (Or.inl ne_b263_b271)
        have F283 := F273.other W281 (Or.inl ne_b263_b271)
        have E284 := E274.wr W281
        have O285 := O275.wr W281 gn_b271
        have K286 := K276.wr W281 (Or.inr gk_b271)
        have hk287 := Nat.le_trans hk277 (Keep.of_wr W281).1
        have sf288 := Safe.wr W281 sf279 CH280.1 sf278
        have sf289 := Safe.wr W281 sf279 CH280.1 sf279
        have CH290 := CH280.trans (CHr.wr W281 sf279 CH280.1)
        have N281 := Fr.snoc X281 N0 gn_b271
        show own_Fin p.tables e below G (T281.setTop (mkF m 104 #[.val (.int p1), .val (.int (p1 &&& (3 : Int32))), .val (.int c0), .val (.int c1), .val (.int c2)] [(.ref b271), (.ref b263), (.ref b263)]))
        refine own_go (fun _ k => XS.dup X281.here hx rfl (hb hby own_d8_104) rfl rfl k) ?_
        show own_Fin p.tables e below G (T281.setTop (mkF m 105 #[.val (.int p1), .val (.int (p1 &&& (3 : Int32))), .val (.int c0), .val (.int c1), .val (.int c2)] [(.ref b271), (.ref b271), (.ref b263), (.ref b263)]))
        refine own_go (fun _ k => XS.iconst X281.here hx rfl (hb hby own_d8_105)  k) ?_
        show own_Fin p.tables e below G (T281.setTop (mkF m 106 #[.val (.int p1), .val (.int (p1 &&& (3 : Int32))), .val (.int c0), .val (.int c1), .val (.int c2)] [(.int (1 : Int32)), (.ref b271), (.ref b271), (.ref b263), (.ref b263)]))
        refine own_go (fun _ k => XS.iloadN X281.here hx rfl (hb hby own_d8_106) rfl k) ?_
        show own_Fin p.tables e below G (T281.setTop (mkF m 107 #[.val (.int p1), .val (.int (p1 &&& (3 : Int32))), .val (.int c0), .val (.int c1), .val (.int c2)] [(.int c1), (.int (1 : Int32)), (.ref b271), (.ref b271), (.ref b263), (.ref b263)]))
        obtain ⟨cl291, Ar291, q291, S291, Nn291, H291, G291⟩ := V281
        have hin291 : ¬ ((1 : Int32) < 0 ∨ cl291.slots.size ≤ ((1 : Int32)).toNatClampNeg) := inb_of S291 ⟨by decide, by decide⟩
        obtain ⟨T291, h291, X291, e291, W291, st291⟩ := stC X281 hx hZ e281 Ar291 (j := (1 : Int32)) hin291 (g := (mkF m 107 #[.val (.int p1), .val (.int (p1 &&& (3 : Int32))), .val (.int c0), .val (.int c1), .val (.int c2)] [(.int c1), (.int (1 : Int32)), (.ref b271), (.ref b271), (.ref b263), (.ref b263)])) rfl rfl (hb hby own_d8_107)
        refine own_go st291 ?_
        have V291 := Arv.set Ar291 q291 S291 Nn291 H291 G291 (fits_nar_char _) W291 1 rfl (Nat.le_of_ble_eq_true rfl)
        rw [m1] at V291
        have F292 := F282.other W291 (Or.inl ne_b263_b271)
        have F293 := F283.other W291 (Or.inl ne_b263_b271)
        have E294 := E284.wr W291
        have O295 := O285.wr W291 gn_b271
        have K296 := K286.wr W291 (Or.inr gk_b271)
        have hk297 := Nat.le_trans hk287 (Keep.of_wr W291).1
        have sf298 := Safe.wr W291 sf289 CH290.1 sf288
        have sf299 := Safe.wr W291 sf289 CH290.1 sf289
        have CH300 := CH290.trans (CHr.wr W291 sf289 CH290.1)
        have N291 := Fr.snoc X291 N281 gn_b271
        show own_Fin p.tables e below G (T291.setTop (mkF m 108 #[.val (.int p1), .val (.int (p1 &&& (3 : Int32))), .val (.int c0), .val (.int c1), .val (.int c2)] [(.ref b271), (.ref b263), (.ref b263)]))
        refine own_go (fun _ k => XS.dup X291.here hx rfl (hb hby own_d8_108) rfl rfl k) ?_
        show own_Fin p.tables e below G (T291.setTop (mkF m 109 #[.val (.int p1), .val (.int (p1 &&& (3 : Int32))), .val (.int c0), .val (.int c1), .val (.int c2)] [(.ref b271), (.ref b271), (.ref b263), (.ref b263)]))
        refine own_go (fun _ k => XS.iconst X291.here hx rfl (hb hby own_d8_109)  k) ?_
        show own_Fin p.tables e below G (T291.setTop (mkF m 110 #[.val (.int p1), .val (.int (p1 &&& (3 : Int32))), .val (.int c0), .val (.int c1), .val (.int c2)] [(.int (2 : Int32)), (.ref b271), (.ref b271), (.ref b263), (.ref b263)]))
        refine own_go (fun _ k => XS.iload X291.here hx rfl (hb hby own_d8_110) rfl k) ?_
        show own_Fin p.tables e below G (T291.setTop (mkF m 112 #[.val (.int p1), .val (.int (p1 &&& (3 : Int32))), .val (.int c0), .val (.int c1), .val (.int c2)] [(.int c2), (.int (2 : Int32)), (.ref b271), (.ref b271), (.ref b263), (.ref b263)]))
        obtain ⟨cl301, Ar301, q301, S301, Nn301, H301, G301⟩ := V291
        have hin301 : ¬ ((2 : Int32) < 0 ∨ cl301.slots.size ≤ ((2 : Int32)).toNatClampNeg) := inb_of S301 ⟨by decide, by decide⟩
        obtain ⟨T301, h301, X301, e301, W301, st301⟩ := stC X291 hx hZ e291 Ar301 (j := (2 : Int32)) hin301 (g := (mkF m 112 #[.val (.int p1), .val (.int (p1 &&& (3 : Int32))), .val (.int c0), .val (.int c1), .val (.int c2)] [(.int c2), (.int (2 : Int32)), (.ref b271), (.ref b271), (.ref b263), (.ref b263)])) rfl rfl (hb hby own_d8_112)
        refine own_go st301 ?_
        have V301 := Arv.set Ar301 q301 S301 Nn301 H301 G301 (fits_nar_char _) W301 2 rfl (Nat.le_of_ble_eq_true rfl)
        rw [m2] at V301
        have F302 := F292.other W301 (Or.inl ne_b263_b271)
        have F303 := F293.other W301 (Or.inl ne_b263_b271)
        have E304 := E294.wr W301
        have O305 := O295.wr W301 gn_b271
        have K306 := K296.wr W301 (Or.inr gk_b271)
        have hk307 := Nat.le_trans hk297 (Keep.of_wr W301).1
        have sf308 := Safe.wr W301 sf299 CH300.1 sf298
        have sf309 := Safe.wr W301 sf299 CH300.1 sf299
        have CH310 := CH300.trans (CHr.wr W301 sf299 CH300.1)
        have N301 := Fr.snoc X301 N291 gn_b271
        show own_Fin p.tables e below G (T301.setTop (mkF m 113 #[.val (.int p1), .val (.int (p1 &&& (3 : Int32))), .val (.int c0), .val (.int c1), .val (.int c2)] [(.ref b271), (.ref b263), (.ref b263)]))
        have hp : ∀ c ∈ ([c0, c1, c2] : List Int32), ¬ c < 0 ∧ ¬ (255 : Int32) < c := by intro c hc; simp only [List.mem_cons, List.not_mem_nil, or_false] at hc; rcases hc with rfl | rfl | rfl <;> assumption
        obtain ⟨_, _, ⟨T311, L311, k311, n311⟩, -, X311, ⟨Lc311, hQ311, l311, y311, z311⟩, st311⟩ := X301.specialBack hx (y := (⟨"java/lang/String", "<init>", "([C)V"⟩ : MethodName)) rfl hown (mvT hZ (own_at hw 8 rfl)) (mvT hZ (own_at hw 9 rfl)) (mvT hZ (own_at hw 10 rfl)) (by decide) (StrChars.Road.backV (W := 1) hZ (own_wst hw) (kI := 4) (own_at hw 5 rfl) (cs := ([c0, c1, c2] : List Int32)) (bs := ([c0, c1, c2] : List Int32).map (fun c => c.toInt8.toInt32)) (n := 3) gn_b263 (own_size O305) E304 F302 F303 V301 (SCS.ext O305.2) hcs rfl rfl (by decide) (by decide) hp rfl (by decide) (by decide)) (g := (mkF m 113 #[.val (.int p1), .val (.int (p1 &&& (3 : Int32))), .val (.int c0), .val (.int c1), .val (.int c2)] [(.ref b271), (.ref b263), (.ref b263)])) rfl (by rw [hml]; rfl) (Steps.refl _) (a := b263) (argsL := [(.ref b271)]) (rest := [(.ref b263)]) (lenOf own_pd5 rfl) rfl (by show 2 * 0 + _ ≤ _; exact Nat.le_of_eq rfl) (hb hby own_d8_113) (fun _ _ => ⟨rfl, e301, (by decide : 2 + 1 ≤ _), (by decide : 7 + 3 ≤ _)⟩)
        dsimp only [Pt.U, Pt.locs, Pt.cells, Pt.slots] at X311 l311 y311 z311 st311 hQ311
        subst l311 y311 z311
        obtain ⟨rfl, N311q, K311, Ew311, FC311, tb311, kb311, -, -, -, FV311, AV311⟩ := hQ311
        have N311 := Fr.app N301 N311q
        have E312 := E304.keep K311
        have O313 := O305.keep K311 (allS gn_b263 all0)
        have K314 := K306.trans K311 (allS (Or.inr gk_b263) all0)
        have hk315 := Nat.le_trans hk307 K311.1
        have sf316 := Safe.keep K311 (sfS sf308 sf0) CH310.1 sf308
        have sf317 := Safe.keep K311 (sfS sf308 sf0) CH310.1 sf309
        have CH318 := CH310.trans (CHr.keep K311 (sfS sf308 sf0) CH310.1)
        refine own_go (fun _ k => st311.trans k) ?_
        show own_Fin p.tables e below G (T311.setTop (mkF m 116 #[.val (.int p1), .val (.int (p1 &&& (3 : Int32))), .val (.int c0), .val (.int c1), .val (.int c2)] [(.ref b263)]))
        have Sx311 : own_S Z T311.heap b263 [c0, c1, c2] := ⟨_, _, Ew311, FC311, FV311, AV311, hp, Nat.le_of_ble_eq_true rfl⟩
        subst hG
        exact own_rvH X311 SS0 (own_hk (rfl : T311.heap = T311.heap) hk315) hZ hEL hh (rfl : T311.heap = T311.heap) CH318 hx (t := (.object "java/lang/String")) Bd.returns rfl (Or.inr (Or.inr (Or.inr (Or.inr ⟨rfl, rfl, rfl⟩)))) (hb hby own_d8_116) Bd.notSynchronized (by decide) (by decide) ⟨b263, rfl, N311, (by exact ⟨K314, by rw [show own_cs p1 = [c0, c1, c2] by unfold own_cs; rw [if_neg hl0, if_neg hl1, if_neg hl2, hc0, hc1, hc2]]; exact Sx311⟩)⟩
theorem own_ef_own_law (m : MethodId) (p0 : Int32) (p1 : Int32) (p2 : Int32) (p3 : Int32) (p4 : Int32) (p5 : Int32)  : entryFrame m #[(.int p0), (.int p1), (.int p2), (.int p3), (.int p4), (.int p5)] maxLocals = (mkF m 0 #[.val (.int p0), .val (.int p1), .val (.int p2), .val (.int p3), .val (.int p4), .val (.int p5), .unset, .unset, .unset, .unset, .unset, .unset, .unset, .unset, .unset, .unset, .unset] []) := by first | (simp [entryFrame, mkF, argsToLocals, Value.category, maxLocals]; done) | rfl
theorem own_pd6 : parseMethodDescriptor "(Ljava/lang/String;IILjava/lang/String;)V" = some ⟨[(.object "java/lang/String"), .int, .int, (.object "java/lang/String")], none⟩ := by decide +kernel
theorem own_pd7 : parseMethodDescriptor "(I)Ljava/lang/Integer;" = some ⟨[.int], some (.object "java/lang/Integer")⟩ := by decide +kernel
theorem own_pd8 : parseMethodDescriptor "(I)Ljava/lang/String;" = some ⟨[.int], some (.object "java/lang/String")⟩ := by decide +kernel
def own_Q_own_law (Z : State) (p0 : Int32) (p1 : Int32) (p2 : Int32) (p3 : Int32) (p4 : Int32) (p5 : Int32) (cs : Int32) (oc : Addr) (cc : Cell) (h0 : Heap) (n0 : Nat) (v : Option Value) (h : Heap) (L : List Loc) : Prop := v = some (.int (1 : Int32)) ∧ Fr n0 L
set_option maxRecDepth 65536 in
set_option maxHeartbeats 40000000 in
theorem own_law (l : Launch) (Z : State) (a0 : Array Value) (hw : ∀ d ∈ tables_1, d.before a0 Z = true) (ws : List Jvm.Cond) (p0 : Int32) (p1 : Int32) (p2 : Int32) (p3 : Int32) (p4 : Int32) (p5 : Int32) (cs : Int32) (oc : Addr) (cc : Cell) (h0 : Heap) (n0 : Nat) (O0 : Old Z n0 h0) (SCS : Sta Z Z.heap "java/lang/String" "COMPACT_STRINGS" "Z" (.int cs)) (hcs : ¬ (cs = 0)) (SC : Sta Z Z.heap "java/lang/Integer$IntegerCache" "cache" "[Ljava/lang/Integer;" (.ref oc)) (SH : Sta Z Z.heap "java/lang/Integer$IntegerCache" "high" "I" (.int (127 : Int32))) (BX : Bxs Z oc cc "java/lang/Integer" "I" (256 : Int32) (fun j => .int (own_iv j))) :
    MetFree l x (head1 (Jvm.Cond.code x code maxLocals ret :: ws) room_1) (fun as' U => as' = #[(.int p0), (.int p1), (.int p2), (.int p3), (.int p4), (.int p5)] ∧ Z.Warmed39 U.vm ∧ U.heap = h0 ∧ CHv Z EL U.vm h0) (fun _ _ _ _ _ => True) (fun _ U o U' => ∃ v L, o = .returned v ∧ own_Q_own_law Z p0 p1 p2 p3 p4 p5 cs oc cc h0 n0 v U'.heap L ∧ ReturnedEndW U o U' L room_1.cells room_1.slots) := by
  refine MetFree.of_bodySF (plainFor_of_name own_pn5) hisR ?_
  intro p e s m args below meth c s₁ Bd hml0 hP hK
  obtain ⟨rfl, hZ, hh, hCH⟩ := hP
  have hx := Bd.exec
  have hby := Bd.bytes
  have hml : c.maxLocals = 17 := hml0
  have hown : s.vm.findClass "com/example/tagwright/tagwright/diag/DiagnosticEqualsPinLaw" = some m.cls := findClass_of_methodNamed Bd.named
  have hnm := (name_of_methodNamed Bd.named Bd.method).1
  have X0 : Stand p l e room_1 (s.setVm s.vm) m #[(.int p0), (.int p1), (.int p2), (.int p3), (.int p4), (.int p5)] below meth c s₁ [] 0 0 := Stand.of_body Bd
  have e0 : s₁.heap = h0 := by rw [← hh, Bd.state]; rfl
  have N0 := Fr.nil n0
  show own_Fin p.tables e below (fun s₂ o => ∃ v L, o = .returned v ∧ own_Q_own_law Z p0 p1 p2 p3 p4 p5 cs oc cc h0 n0 v s₂.heap L ∧ ReturnedEndW s o s₂ L room_1.cells room_1.slots) _
  generalize hG : (fun (s₂ : State) (o : Outcome) => ∃ v L, o = Outcome.returned v ∧ own_Q_own_law Z p0 p1 p2 p3 p4 p5 cs oc cc h0 n0 v s₂.heap L ∧ ReturnedEndW s o s₂ L room_1.cells room_1.slots) = G
  have SS0 : s.Since s.vm h0.size := (State.WarmedH.refl s).since _
  have hk0 : h0.size ≤ h0.size := Nat.le_refl _
  have CH0 := CHr.refl hCH
  have hEL := own_EW hw
  refine own_go (fun _ k => castTop (own_ef_own_law m p0 p1 p2 p3 p4 p5) k) ?_
  show own_Fin p.tables e below G (s₁.setTop (mkF m 0 #[.val (.int p0), .val (.int p1), .val (.int p2), .val (.int p3), .val (.int p4), .val (.int p5), .unset, .unset, .unset, .unset, .unset, .unset, .unset, .unset, .unset, .unset, .unset] []))
  have own_k52 : ∀ (T : State) (vm : Vm) (kk : Nat) (locs : List Loc) (h : Heap) (X : Stand p l e room_1 (s.setVm vm) m #[(.int p0), (.int p1), (.int p2), (.int p3), (.int p4), (.int p5)] below meth c T locs 24 48) (hZp : Z.Warmed39 vm) (hownp : vm.findClass "com/example/tagwright/tagwright/diag/DiagnosticEqualsPinLaw" = some m.cls) (SSp : s.Since vm kk) (hkp : kk ≤ h.size) (eT : T.heap = h) (N : Fr n0 locs) (O : Old Z n0 h) (f1 : Addr) (g1 : Addr) (f2 : Addr) (y2 : List Int32) (g2 : Addr) (z2 : List Int32) (S1 : own_S Z h f1 (own_cs p0)) (S2 : own_S Z h g1 (own_cs p1)) (S3 : own_S Z h f2 y2) (S4 : own_S Z h g2 z2), own_Fin p.tables e below G (T.setTop (mkF m 52 #[.val (.int p0), .val (.int p1), .val (.int p2), .val (.int p3), .val (.int p4), .val (.int p5), .val (.ref f1), .val (.ref g1), .val (.ref f2), .unset, .unset, .unset, .unset, .unset, .unset, .unset, .unset] [(.ref g2)])) := by
    intro T vm kk locs h X hZp hownp SSp hkp eT N O f1 g1 f2 y2 g2 z2 S1 S2 S3 S4
    refine own_go (fun _ k => XS.astore X.here hx rfl (hb hby at_52) rfl rfl (l' := #[.val (.int p0), .val (.int p1), .val (.int p2), .val (.int p3), .val (.int p4), .val (.int p5), .val (.ref f1), .val (.ref g1), .val (.ref f2), .val (.ref g2), .unset, .unset, .unset, .unset, .unset, .unset, .unset]) rfl k) ?_
    show own_Fin p.tables e below G (T.setTop (mkF m 54 #[.val (.int p0), .val (.int p1), .val (.int p2), .val (.int p3), .val (.int p4), .val (.int p5), .val (.ref f1), .val (.ref g1), .val (.ref f2), .val (.ref g2), .unset, .unset, .unset, .unset, .unset, .unset, .unset] []))
    refine own_go (fun _ k => XS.iload X.here hx rfl (hb hby at_54) rfl k) ?_
    show own_Fin p.tables e below G (T.setTop (mkF m 56 #[.val (.int p0), .val (.int p1), .val (.int p2), .val (.int p3), .val (.int p4), .val (.int p5), .val (.ref f1), .val (.ref g1), .val (.ref f2), .val (.ref g2), .unset, .unset, .unset, .unset, .unset, .unset, .unset] [(.int p4)]))
    refine own_go (fun _ k => XS.iconst X.here hx rfl (hb hby at_56)  k) ?_
    show own_Fin p.tables e below G (T.setTop (mkF m 57 #[.val (.int p0), .val (.int p1), .val (.int p2), .val (.int p3), .val (.int p4), .val (.int p5), .val (.ref f1), .val (.ref g1), .val (.ref f2), .val (.ref g2), .unset, .unset, .unset, .unset, .unset, .unset, .unset] [(.int (4 : Int32)), (.int p4)]))
    refine own_go (fun _ k => XS.iand X.here hx rfl (hb hby at_57) rfl k) ?_
    show own_Fin p.tables e below G (T.setTop (mkF m 58 #[.val (.int p0), .val (.int p1), .val (.int p2), .val (.int p3), .val (.int p4), .val (.int p5), .val (.ref f1), .val (.ref g1), .val (.ref f2), .val (.ref g2), .unset, .unset, .unset, .unset, .unset, .unset, .unset] [(.int (p4 &&& (4 : Int32)))]))
    suffices own_k67 : ∀ pl : Int32, own_Fin p.tables e below G (T.setTop (mkF m 67 #[.val (.int p0), .val (.int p1), .val (.int p2), .val (.int p3), .val (.int p4), .val (.int p5), .val (.ref f1), .val (.ref g1), .val (.ref f2), .val (.ref g2), .unset, .unset, .unset, .unset, .unset, .unset, .unset] [(.int pl)])) by
      by_cases hc58 : (p4 &&& (4 : Int32)) = 0
      · refine own_go (fun _ k => XS.ifYes X.here hx rfl (pc0 := 58) (pc' := 66) rfl (hb hby at_58) rfl (Jvm.Free.XT.i0_eq_t hc58) (by decide) (by decide) k) ?_
        show own_Fin p.tables e below G (T.setTop (mkF m 66 #[.val (.int p0), .val (.int p1), .val (.int p2), .val (.int p3), .val (.int p4), .val (.int p5), .val (.ref f1), .val (.ref g1), .val (.ref f2), .val (.ref g2), .unset, .unset, .unset, .unset, .unset, .unset, .unset] []))
        refine own_go (fun _ k => XS.iloadN X.here hx rfl (hb hby at_66) rfl k) ?_
        show own_Fin p.tables e below G (T.setTop (mkF m 67 #[.val (.int p0), .val (.int p1), .val (.int p2), .val (.int p3), .val (.int p4), .val (.int p5), .val (.ref f1), .val (.ref g1), .val (.ref f2), .val (.ref g2), .unset, .unset, .unset, .unset, .unset, .unset, .unset] [(.int p2)]))
        exact own_k67 _
      · refine own_go (fun _ k => XS.ifNo X.here hx rfl (hb hby at_58) rfl (Jvm.Free.XT.i0_eq_f hc58) k) ?_
        show own_Fin p.tables e below G (T.setTop (mkF m 61 #[.val (.int p0), .val (.int p1), .val (.int p2), .val (.int p3), .val (.int p4), .val (.int p5), .val (.ref f1), .val (.ref g1), .val (.ref f2), .val (.ref g2), .unset, .unset, .unset, .unset, .unset, .unset, .unset] []))
        refine own_go (fun _ k => XS.iload X.here hx rfl (hb hby at_61) rfl k) ?_
        show own_Fin p.tables e below G (T.setTop (mkF m 63 #[.val (.int p0), .val (.int p1), .val (.int p2), .val (.int p3), .val (.int p4), .val (.int p5), .val (.ref f1), .val (.ref g1), .val (.ref f2), .val (.ref g2), .unset, .unset, .unset, .unset, .unset, .unset, .unset] [(.int p5)]))
        refine own_go (fun _ k => XS.goto X.here hx rfl (pc0 := 63) (pc' := 67) rfl (hb hby at_63) (by decide) (by decide) k) ?_
        show own_Fin p.tables e below G (T.setTop (mkF m 67 #[.val (.int p0), .val (.int p1), .val (.int p2), .val (.int p3), .val (.int p4), .val (.int p5), .val (.ref f1), .val (.ref g1), .val (.ref f2), .val (.ref g2), .unset, .unset, .unset, .unset, .unset, .unset, .unset] [(.int p5)]))
        exact own_k67 _
    intro pl
    refine own_go (fun _ k => XS.istore X.here hx rfl (hb hby at_67) rfl (l' := #[.val (.int p0), .val (.int p1), .val (.int p2), .val (.int p3), .val (.int p4), .val (.int p5), .val (.ref f1), .val (.ref g1), .val (.ref f2), .val (.ref g2), .val (.int pl), .unset, .unset, .unset, .unset, .unset, .unset]) rfl k) ?_
    show own_Fin p.tables e below G (T.setTop (mkF m 69 #[.val (.int p0), .val (.int p1), .val (.int p2), .val (.int p3), .val (.int p4), .val (.int p5), .val (.ref f1), .val (.ref g1), .val (.ref f2), .val (.ref g2), .val (.int pl), .unset, .unset, .unset, .unset, .unset, .unset] []))
    refine own_go (fun _ k => XS.iload X.here hx rfl (hb hby at_69) rfl k) ?_
    show own_Fin p.tables e below G (T.setTop (mkF m 71 #[.val (.int p0), .val (.int p1), .val (.int p2), .val (.int p3), .val (.int p4), .val (.int p5), .val (.ref f1), .val (.ref g1), .val (.ref f2), .val (.ref g2), .val (.int pl), .unset, .unset, .unset, .unset, .unset, .unset] [(.int p4)]))
    refine own_go (fun _ k => XS.bipush X.here hx rfl (hb hby at_71)  k) ?_
    show own_Fin p.tables e below G (T.setTop (mkF m 73 #[.val (.int p0), .val (.int p1), .val (.int p2), .val (.int p3), .val (.int p4), .val (.int p5), .val (.ref f1), .val (.ref g1), .val (.ref f2), .val (.ref g2), .val (.int pl), .unset, .unset, .unset, .unset, .unset, .unset] [(.int (8 : Int32)), (.int p4)]))
    refine own_go (fun _ k => XS.iand X.here hx rfl (hb hby at_73) rfl k) ?_
    show own_Fin p.tables e below G (T.setTop (mkF m 74 #[.val (.int p0), .val (.int p1), .val (.int p2), .val (.int p3), .val (.int p4), .val (.int p5), .val (.ref f1), .val (.ref g1), .val (.ref f2), .val (.ref g2), .val (.int pl), .unset, .unset, .unset, .unset, .unset, .unset] [(.int (p4 &&& (8 : Int32)))]))
    suffices own_k83 : ∀ pm : Int32, own_Fin p.tables e below G (T.setTop (mkF m 83 #[.val (.int p0), .val (.int p1), .val (.int p2), .val (.int p3), .val (.int p4), .val (.int p5), .val (.ref f1), .val (.ref g1), .val (.ref f2), .val (.ref g2), .val (.int pl), .unset, .unset, .unset, .unset, .unset, .unset] [(.int pm)])) by
      by_cases hc74 : (p4 &&& (8 : Int32)) = 0
      · refine own_go (fun _ k => XS.ifYes X.here hx rfl (pc0 := 74) (pc' := 82) rfl (hb hby at_74) rfl (Jvm.Free.XT.i0_eq_t hc74) (by decide) (by decide) k) ?_
        show own_Fin p.tables e below G (T.setTop (mkF m 82 #[.val (.int p0), .val (.int p1), .val (.int p2), .val (.int p3), .val (.int p4), .val (.int p5), .val (.ref f1), .val (.ref g1), .val (.ref f2), .val (.ref g2), .val (.int pl), .unset, .unset, .unset, .unset, .unset, .unset] []))
        refine own_go (fun _ k => XS.iloadN X.here hx rfl (hb hby at_82) rfl k) ?_
        show own_Fin p.tables e below G (T.setTop (mkF m 83 #[.val (.int p0), .val (.int p1), .val (.int p2), .val (.int p3), .val (.int p4), .val (.int p5), .val (.ref f1), .val (.ref g1), .val (.ref f2), .val (.ref g2), .val (.int pl), .unset, .unset, .unset, .unset, .unset, .unset] [(.int p3)]))
        exact own_k83 _
      · refine own_go (fun _ k => XS.ifNo X.here hx rfl (hb hby at_74) rfl (Jvm.Free.XT.i0_eq_f hc74) k) ?_
        show own_Fin p.tables e below G (T.setTop (mkF m 77 #[.val (.int p0), .val (.int p1), .val (.int p2), .val (.int p3), .val (.int p4), .val (.int p5), .val (.ref f1), .val (.ref g1), .val (.ref f2), .val (.ref g2), .val (.int pl), .unset, .unset, .unset, .unset, .unset, .unset] []))
        refine own_go (fun _ k => XS.iload X.here hx rfl (hb hby at_77) rfl k) ?_
        show own_Fin p.tables e below G (T.setTop (mkF m 79 #[.val (.int p0), .val (.int p1), .val (.int p2), .val (.int p3), .val (.int p4), .val (.int p5), .val (.ref f1), .val (.ref g1), .val (.ref f2), .val (.ref g2), .val (.int pl), .unset, .unset, .unset, .unset, .unset, .unset] [(.int p5)]))
        refine own_go (fun _ k => XS.goto X.here hx rfl (pc0 := 79) (pc' := 83) rfl (hb hby at_79) (by decide) (by decide) k) ?_
        show own_Fin p.tables e below G (T.setTop (mkF m 83 #[.val (.int p0), .val (.int p1), .val (.int p2), .val (.int p3), .val (.int p4), .val (.int p5), .val (.ref f1), .val (.ref g1), .val (.ref f2), .val (.ref g2), .val (.int pl), .unset, .unset, .unset, .unset, .unset, .unset] [(.int p5)]))
        exact own_k83 _
    intro pm
    have Kp := Keep.refl h []
    have ES1 := S1.exa
    have ES2 := S2.exa
    have ES3 := S3.exa
    have ES4 := S4.exa
    refine own_go (fun _ k => XS.istore X.here hx rfl (hb hby at_83) rfl (l' := #[.val (.int p0), .val (.int p1), .val (.int p2), .val (.int p3), .val (.int p4), .val (.int p5), .val (.ref f1), .val (.ref g1), .val (.ref f2), .val (.ref g2), .val (.int pl), .val (.int pm), .unset, .unset, .unset, .unset, .unset]) rfl k) ?_
    show own_Fin p.tables e below G (T.setTop (mkF m 85 #[.val (.int p0), .val (.int p1), .val (.int p2), .val (.int p3), .val (.int p4), .val (.int p5), .val (.ref f1), .val (.ref g1), .val (.ref f2), .val (.ref g2), .val (.int pl), .val (.int pm), .unset, .unset, .unset, .unset, .unset] []))
    obtain ⟨T319, h319, X319, e319, E319, A319, D319, -, st319⟩ := newO X hx hZp hownp (own_at hw 37 rfl) (own_at hw 38 rfl) (own_at hw 39 rfl) eT (g := (mkF m 85 #[.val (.int p0), .val (.int p1), .val (.int p2), .val (.int p3), .val (.int p4), .val (.int p5), .val (.ref f1), .val (.ref g1), .val (.ref f2), .val (.ref g2), .val (.int pl), .val (.int pm), .unset, .unset, .unset, .unset, .unset] [])) rfl (hb hby at_85) (by decide) (by decide)
    obtain ⟨b319, g319⟩ : ∃ z, z = h.size := ⟨_, rfl⟩
    rw [← g319] at A319 D319 st319
    refine own_go st319 ?_
    have gn_b319 : n0 ≤ b319 := Nat.le_trans (own_size O) (Nat.le_of_eq g319.symm)
    have gk_b319 : h.size ≤ b319 := Nat.le_trans Kp.1 (Nat.le_of_eq g319.symm)
    have ne_f1_b319 : f1 ≠ b319 := Nat.ne_of_lt (Nat.lt_of_lt_of_le ES1.lt (Nat.le_of_eq g319.symm))
    have ne_g1_b319 : g1 ≠ b319 := Nat.ne_of_lt (Nat.lt_of_lt_of_le ES2.lt (Nat.le_of_eq g319.symm))
    have ne_f2_b319 : f2 ≠ b319 := Nat.ne_of_lt (Nat.lt_of_lt_of_le ES3.lt (Nat.le_of_eq g319.symm))
    have ne_g2_b319 : g2 ≠ b319 := Nat.ne_of_lt (Nat.lt_of_lt_of_le ES4.lt (Nat.le_of_eq g319.symm))
    have E320 := ES1.ext E319
    have E321 := ES2.ext E319
    have E322 := ES3.ext E319
    have E323 := ES4.ext E319
    have O324 := O.ext E319
    have K325 := Kp.ext E319
    have hk326 := Nat.le_trans hkp E319.1
    have F327 : Fld Z h319 b319 "com/example/tagwright/tagwright/diag/Diagnostic" "file" "Ljava/lang/String;" .null := D319 (Or.inr (own_at hw 51 rfl)) (ty := (.object "java/lang/String")) (by decide)
    have F328 : Fld Z h319 b319 "com/example/tagwright/tagwright/diag/Diagnostic" "line" "I" (.int (0 : Int32)) := D319 (Or.inr (own_at hw 53 rfl)) (ty := .int) (by decide)
    have F329 : Fld Z h319 b319 "com/example/tagwright/tagwright/diag/Diagnostic" "column" "I" (.int (0 : Int32)) := D319 (Or.inr (own_at hw 55 rfl)) (ty := .int) (by decide)
    have F330 : Fld Z h319 b319 "com/example/tagwright/tagwright/diag/Diagnostic" "message" "Ljava/lang/String;" .null := D319 (Or.inr (own_at hw 58 rfl)) (ty := (.object "java/lang/String")) (by decide)
    show own_Fin p.tables e below G (T319.setTop (mkF m 88 #[.val (.int p0), .val (.int p1), .val (.int p2), .val (.int p3), .val (.int p4), .val (.int p5), .val (.ref f1), .val (.ref g1), .val (.ref f2), .val (.ref g2), .val (.int pl), .val (.int pm), .unset, .unset, .unset, .unset, .unset] [(.ref b319)]))
    refine own_go (fun _ k => XS.dup X319.here hx rfl (hb hby at_88) rfl rfl k) ?_
    show own_Fin p.tables e below G (T319.setTop (mkF m 89 #[.val (.int p0), .val (.int p1), .val (.int p2), .val (.int p3), .val (.int p4), .val (.int p5), .val (.ref f1), .val (.ref g1), .val (.ref f2), .val (.ref g2), .val (.int pl), .val (.int pm), .unset, .unset, .unset, .unset, .unset] [(.ref b319), (.ref b319)]))
    refine own_go (fun _ k => XS.aload X319.here hx rfl (hb hby at_89) rfl rfl k) ?_
    show own_Fin p.tables e below G (T319.setTop (mkF m 91 #[.val (.int p0), .val (.int p1), .val (.int p2), .val (.int p3), .val (.int p4), .val (.int p5), .val (.ref f1), .val (.ref g1), .val (.ref f2), .val (.ref g2), .val (.int pl), .val (.int pm), .unset, .unset, .unset, .unset, .unset] [(.ref f1), (.ref b319), (.ref b319)]))
    refine own_go (fun _ k => XS.iloadN X319.here hx rfl (hb hby at_91) rfl k) ?_
    show own_Fin p.tables e below G (T319.setTop (mkF m 92 #[.val (.int p0), .val (.int p1), .val (.int p2), .val (.int p3), .val (.int p4), .val (.int p5), .val (.ref f1), .val (.ref g1), .val (.ref f2), .val (.ref g2), .val (.int pl), .val (.int pm), .unset, .unset, .unset, .unset, .unset] [(.int p2), (.ref f1), (.ref b319), (.ref b319)]))
    refine own_go (fun _ k => XS.iloadN X319.here hx rfl (hb hby at_92) rfl k) ?_
    show own_Fin p.tables e below G (T319.setTop (mkF m 93 #[.val (.int p0), .val (.int p1), .val (.int p2), .val (.int p3), .val (.int p4), .val (.int p5), .val (.ref f1), .val (.ref g1), .val (.ref f2), .val (.ref g2), .val (.int pl), .val (.int pm), .unset, .unset, .unset, .unset, .unset] [(.int p3), (.int p2), (.ref f1), (.ref b319), (.ref b319)]))
    refine own_go (fun _ k => XS.aload X319.here hx rfl (hb hby at_93) rfl rfl k) ?_
    show own_Fin p.tables e below G (T319.setTop (mkF m 95 #[.val (.int p0), .val (.int p1), .val (.int p2), .val (.int p3), .val (.int p4), .val (.int p5), .val (.ref f1), .val (.ref g1), .val (.ref f2), .val (.ref g2), .val (.int pl), .val (.int pm), .unset, .unset, .unset, .unset, .unset] [(.ref g1), (.int p3), (.int p2), (.ref f1), (.ref b319), (.ref b319)]))
    obtain ⟨_, _, ⟨T331, L331, k331, n331⟩, -, X331, S331, gs331, ⟨Lc331, hQ331, l331, y331, z331⟩, st331⟩ := X319.specialBackS hx (y := (⟨"com/example/tagwright/tagwright/diag/Diagnostic", "<init>", "(Ljava/lang/String;IILjava/lang/String;)V"⟩ : MethodName)) rfl hownp (mvT hZp (own_at hw 40 rfl)) (mvT hZp (own_at hw 41 rfl)) (mvT hZp (own_at hw 42 rfl)) (by decide) (backOfS (W := 1) (own_di l Z a0 hw [] b319 f1 p2 p3 g1 h319 n0 O324 A319 F327 F328 F329 F330 E320 E321 gn_b319) hZp (own_at hw 42 rfl) (own_at hw 39 rfl) (by decide) (by decide)) (g := (mkF m 95 #[.val (.int p0), .val (.int p1), .val (.int p2), .val (.int p3), .val (.int p4), .val (.int p5), .val (.ref f1), .val (.ref g1), .val (.ref f2), .val (.ref g2), .val (.int pl), .val (.int pm), .unset, .unset, .unset, .unset, .unset] [(.ref g1), (.int p3), (.int p2), (.ref f1), (.ref b319), (.ref b319)])) rfl (by rw [hml]; rfl) (Steps.refl _) (a := b319) (argsL := [(.ref f1), (.int p2), (.int p3), (.ref g1)]) (rest := [(.ref b319)]) (lenOf own_pd6 rfl) rfl (by show 2 * 0 + _ ≤ _; exact Nat.le_of_eq rfl) (hb hby at_95) (fun _ _ => ⟨rfl, e319, (by decide : 25 + 4 ≤ _), (by decide : 52 + 52 ≤ _)⟩)
    dsimp only [Pt.U, Pt.locs, Pt.cells, Pt.slots] at X331 l331 y331 z331 st331 hQ331 S331 gs331
    subst l331 y331 z331
    have SS331 := foldS SSp (own_hk e319 hk326) S331 gs331
    have hZ331 := own_rebZ hZp S331
    have hown331 := own_rebO hownp S331
    have hkk331 : T331.heap.size ≤ T331.heap.size := Nat.le_refl _
    have X331 : Stand p l e room_1 (s.setVm T331.vm) m #[(.int p0), (.int p1), (.int p2), (.int p3), (.int p4), (.int p5)] below meth c T331 _ _ _ := X331
    obtain ⟨rfl, N331q, K331, Ew331, Ff331, Fp331, Fq331, Fg331⟩ := hQ331
    have N331 := Fr.app N N331q
    have E332 := E320.keep K331
    have E333 := E321.keep K331
    have E334 := E322.keep K331
    have E335 := E323.keep K331
    have E336 := A319.keep K331
    have O337 := O324.keep K331 (allS gn_b319 all0)
    have K338 := K325.trans K331 (allS (Or.inr gk_b319) all0)
    refine own_go (fun _ k => st331.trans k) ?_
    show own_Fin p.tables e below G (T331.setTop (mkF m 98 #[.val (.int p0), .val (.int p1), .val (.int p2), .val (.int p3), .val (.int p4), .val (.int p5), .val (.ref f1), .val (.ref g1), .val (.ref f2), .val (.ref g2), .val (.int pl), .val (.int pm), .unset, .unset, .unset, .unset, .unset] [(.ref b319)]))
    refine own_go (fun _ k => XS.astore X331.here hx rfl (hb hby at_98) rfl rfl (l' := #[.val (.int p0), .val (.int p1), .val (.int p2), .val (.int p3), .val (.int p4), .val (.int p5), .val (.ref f1), .val (.ref g1), .val (.ref f2), .val (.ref g2), .val (.int pl), .val (.int pm), .val (.ref b319), .unset, .unset, .unset, .unset]) rfl k) ?_
    show own_Fin p.tables e below G (T331.setTop (mkF m 100 #[.val (.int p0), .val (.int p1), .val (.int p2), .val (.int p3), .val (.int p4), .val (.int p5), .val (.ref f1), .val (.ref g1), .val (.ref f2), .val (.ref g2), .val (.int pl), .val (.int pm), .val (.ref b319), .unset, .unset, .unset, .unset] []))
    obtain ⟨T339, h339, X339, e339, E339, A339, D339, -, st339⟩ := newO X331 hx hZ331 hown331 (own_at hw 37 rfl) (own_at hw 38 rfl) (own_at hw 39 rfl) (rfl : T331.heap = T331.heap) (g := (mkF m 100 #[.val (.int p0), .val (.int p1), .val (.int p2), .val (.int p3), .val (.int p4), .val (.int p5), .val (.ref f1), .val (.ref g1), .val (.ref f2), .val (.ref g2), .val (.int pl), .val (.int pm), .val (.ref b319), .unset, .unset, .unset, .unset] [])) rfl (hb hby at_100) (by decide) (by decide)
    obtain ⟨b339, g339⟩ : ∃ z, z = T331.heap.size := ⟨_, rfl⟩
    rw [← g339] at A339 D339 st339
    refine own_go st339 ?_
    have gn_b339 : n0 ≤ b339 := Nat.le_trans (own_size O337) (Nat.le_of_eq g339.symm)
    have gk_b339 : h.size ≤ b339 := Nat.le_trans K338.1 (Nat.le_of_eq g339.symm)
    have ne_b319_b339 : b319 ≠ b339 := Nat.ne_of_lt (Nat.lt_of_lt_of_le E336.lt (Nat.le_of_eq g339.symm))
    have ne_f1_b339 : f1 ≠ b339 := Nat.ne_of_lt (Nat.lt_of_lt_of_le E332.lt (Nat.le_of_eq g339.symm))
    have ne_g1_b339 : g1 ≠ b339 := Nat.ne_of_lt (Nat.lt_of_lt_of_le E333.lt (Nat.le_of_eq g339.symm))
    have ne_f2_b339 : f2 ≠ b339 := Nat.ne_of_lt (Nat.lt_of_lt_of_le E334.lt (Nat.le_of_eq g339.symm))
    have ne_g2_b339 : g2 ≠ b339 := Nat.ne_of_lt (Nat.lt_of_lt_of_le E335.lt (Nat.le_of_eq g339.symm))
    have F340 := Ff331.ext E339
    have F341 := Fp331.ext E339
    have F342 := Fq331.ext E339
    have F343 := Fg331.ext E339
    have E344 := E332.ext E339
    have E345 := E333.ext E339
    have E346 := E334.ext E339
    have E347 := E335.ext E339
    have E348 := E336.ext E339
    have O349 := O337.ext E339
    have K350 := K338.ext E339
    have hk351 := Nat.le_trans hkk331 E339.1
    have F352 : Fld Z h339 b339 "com/example/tagwright/tagwright/diag/Diagnostic" "file" "Ljava/lang/String;" .null := D339 (Or.inr (own_at hw 51 rfl)) (ty := (.object "java/lang/String")) (by decide)
    have F353 : Fld Z h339 b339 "com/example/tagwright/tagwright/diag/Diagnostic" "line" "I" (.int (0 : Int32)) := D339 (Or.inr (own_at hw 53 rfl)) (ty := .int) (by decide)
    have F354 : Fld Z h339 b339 "com/example/tagwright/tagwright/diag/Diagnostic" "column" "I" (.int (0 : Int32)) := D339 (Or.inr (own_at hw 55 rfl)) (ty := .int) (by decide)
    have F355 : Fld Z h339 b339 "com/example/tagwright/tagwright/diag/Diagnostic" "message" "Ljava/lang/String;" .null := D339 (Or.inr (own_at hw 58 rfl)) (ty := (.object "java/lang/String")) (by decide)
    show own_Fin p.tables e below G (T339.setTop (mkF m 103 #[.val (.int p0), .val (.int p1), .val (.int p2), .val (.int p3), .val (.int p4), .val (.int p5), .val (.ref f1), .val (.ref g1), .val (.ref f2), .val (.ref g2), .val (.int pl), .val (.int pm), .val (.ref b319), .unset, .unset, .unset, .unset] [(.ref b339)]))
    refine own_go (fun _ k => XS.dup X339.here hx rfl (hb hby at_103) rfl rfl k) ?_
    show own_Fin p.tables e below G (T339.setTop (mkF m 104 #[.val (.int p0), .val (.int p1), .val (.int p2), .val (.int p3), .val (.int p4), .val (.int p5), .val (.ref f1), .val (.ref g1), .val (.ref f2), .val (.ref g2), .val (.int pl), .val (.int pm), .val (.ref b319), .unset, .unset, .unset, .unset] [(.ref b339), (.ref b339)]))
    refine own_go (fun _ k => XS.aload X339.here hx rfl (hb hby at_104) rfl rfl k) ?_
    show own_Fin p.tables e below G (T339.setTop (mkF m 106 #[.val (.int p0), .val (.int p1), .val (.int p2), .val (.int p3), .val (.int p4), .val (.int p5), .val (.ref f1), .val (.ref g1), .val (.ref f2), .val (.ref g2), .val (.int pl), .val (.int pm), .val (.ref b319), .unset, .unset, .unset, .unset] [(.ref f2), (.ref b339), (.ref b339)]))
    refine own_go (fun _ k => XS.iload X339.here hx rfl (hb hby at_106) rfl k) ?_
    show own_Fin p.tables e below G (T339.setTop (mkF m 108 #[.val (.int p0), .val (.int p1), .val (.int p2), .val (.int p3), .val (.int p4), .val (.int p5), .val (.ref f1), .val (.ref g1), .val (.ref f2), .val (.ref g2), .val (.int pl), .val (.int pm), .val (.ref b319), .unset, .unset, .unset, .unset] [(.int pl), (.ref f2), (.ref b339), (.ref b339)]))
    refine own_go (fun _ k => XS.iload X339.here hx rfl (hb hby at_108) rfl k) ?_
    show own_Fin p.tables e below G (T339.setTop (mkF m 110 #[.val (.int p0), .val (.int p1), .val (.int p2), .val (.int p3), .val (.int p4), .val (.int p5), .val (.ref f1), .val (.ref g1), .val (.ref f2), .val (.ref g2), .val (.int pl), .val (.int pm), .val (.ref b319), .unset, .unset, .unset, .unset] [(.int pm), (.int pl), (.ref f2), (.ref b339), (.ref b339)]))
    refine own_go (fun _ k => XS.aload X339.here hx rfl (hb hby at_110) rfl rfl k) ?_
    show own_Fin p.tables e below G (T339.setTop (mkF m 112 #[.val (.int p0), .val (.int p1), .val (.int p2), .val (.int p3), .val (.int p4), .val (.int p5), .val (.ref f1), .val (.ref g1), .val (.ref f2), .val (.ref g2), .val (.int pl), .val (.int pm), .val (.ref b319), .unset, .unset, .unset, .unset] [(.ref g2), (.int pm), (.int pl), (.ref f2), (.ref b339), (.ref b339)]))
    obtain ⟨_, _, ⟨T356, L356, k356, n356⟩, -, X356, S356, gs356, ⟨Lc356, hQ356, l356, y356, z356⟩, st356⟩ := X339.specialBackS hx (y := (⟨"com/example/tagwright/tagwright/diag/Diagnostic", "<init>", "(Ljava/lang/String;IILjava/lang/String;)V"⟩ : MethodName)) rfl hown331 (mvT hZ331 (own_at hw 40 rfl)) (mvT hZ331 (own_at hw 41 rfl)) (mvT hZ331 (own_at hw 42 rfl)) (by decide) (backOfS (W := 1) (own_di l Z a0 hw [] b339 f2 pl pm g2 h339 n0 O349 A339 F352 F353 F354 F355 E346 E347 gn_b339) hZ331 (own_at hw 42 rfl) (own_at hw 39 rfl) (by decide) (by decide)) (g := (mkF m 112 #[.val (.int p0), .val (.int p1), .val (.int p2), .val (.int p3), .val (.int p4), .val (.int p5), .val (.ref f1), .val (.ref g1), .val (.ref f2), .val (.ref g2), .val (.int pl), .val (.int pm), .val (.ref b319), .unset, .unset, .unset, .unset] [(.ref g2), (.int pm), (.int pl), (.ref f2), (.ref b339), (.ref b339)])) rfl (by rw [hml]; rfl) (Steps.refl _) (a := b339) (argsL := [(.ref f2), (.int pl), (.int pm), (.ref g2)]) (rest := [(.ref b339)]) (lenOf own_pd6 rfl) rfl (by show 2 * 0 + _ ≤ _; exact Nat.le_of_eq rfl) (hb hby at_112) (fun _ _ => ⟨rfl, e339, (by decide : 30 + 4 ≤ _), (by decide : 108 + 52 ≤ _)⟩)
    dsimp only [Pt.U, Pt.locs, Pt.cells, Pt.slots] at X356 l356 y356 z356 st356 hQ356 S356 gs356
    subst l356 y356 z356
    have SS356 := foldS SS331 (own_hk e339 hk351) S356 gs356
    have hZ356 := own_rebZ hZ331 S356
    have hown356 := own_rebO hown331 S356
    have hkk356 : T356.heap.size ≤ T356.heap.size := Nat.le_refl _
    have X356 : Stand p l e room_1 (s.setVm T356.vm) m #[(.int p0), (.int p1), (.int p2), (.int p3), (.int p4), (.int p5)] below meth c T356 _ _ _ := X356
    obtain ⟨rfl, N356q, K356, Ew356, Ff356, Fp356, Fq356, Fg356⟩ := hQ356
    have N356 := Fr.app N331 N356q
    have F357 := F340.keep K356 (ninS ne_b319_b339 nin0)
    have F358 := F341.keep K356 (ninS ne_b319_b339 nin0)
    have F359 := F342.keep K356 (ninS ne_b319_b339 nin0)
    have F360 := F343.keep K356 (ninS ne_b319_b339 nin0)
    have E361 := E344.keep K356
    have E362 := E345.keep K356
    have E363 := E346.keep K356
    have E364 := E347.keep K356
    have E365 := E348.keep K356
    have E366 := A339.keep K356
    have O367 := O349.keep K356 (allS gn_b339 all0)
    have K368 := K350.trans K356 (allS (Or.inr gk_b339) all0)
    refine own_go (fun _ k => st356.trans k) ?_
    show own_Fin p.tables e below G (T356.setTop (mkF m 115 #[.val (.int p0), .val (.int p1), .val (.int p2), .val (.int p3), .val (.int p4), .val (.int p5), .val (.ref f1), .val (.ref g1), .val (.ref f2), .val (.ref g2), .val (.int pl), .val (.int pm), .val (.ref b319), .unset, .unset, .unset, .unset] [(.ref b339)]))
    refine own_go (fun _ k => XS.astore X356.here hx rfl (hb hby at_115) rfl rfl (l' := #[.val (.int p0), .val (.int p1), .val (.int p2), .val (.int p3), .val (.int p4), .val (.int p5), .val (.ref f1), .val (.ref g1), .val (.ref f2), .val (.ref g2), .val (.int pl), .val (.int pm), .val (.ref b319), .val (.ref b339), .unset, .unset, .unset]) rfl k) ?_
    show own_Fin p.tables e below G (T356.setTop (mkF m 117 #[.val (.int p0), .val (.int p1), .val (.int p2), .val (.int p3), .val (.int p4), .val (.int p5), .val (.ref f1), .val (.ref g1), .val (.ref f2), .val (.ref g2), .val (.int pl), .val (.int pm), .val (.ref b319), .val (.ref b339), .unset, .unset, .unset] []))
    refine own_go (fun _ k => XS.iload X356.here hx rfl (hb hby at_117) rfl k) ?_
    show own_Fin p.tables e below G (T356.setTop (mkF m 119 #[.val (.int p0), .val (.int p1), .val (.int p2), .val (.int p3), .val (.int p4), .val (.int p5), .val (.ref f1), .val (.ref g1), .val (.ref f2), .val (.ref g2), .val (.int pl), .val (.int pm), .val (.ref b319), .val (.ref b339), .unset, .unset, .unset] [(.int p4)]))
    refine own_go (fun _ k => XS.iconst X356.here hx rfl (hb hby at_119)  k) ?_
    show own_Fin p.tables e below G (T356.setTop (mkF m 120 #[.val (.int p0), .val (.int p1), .val (.int p2), .val (.int p3), .val (.int p4), .val (.int p5), .val (.ref f1), .val (.ref g1), .val (.ref f2), .val (.ref g2), .val (.int pl), .val (.int pm), .val (.ref b319), .val (.ref b339), .unset, .unset, .unset] [(.int (4 : Int32)), (.int p4)]))
    refine own_go (fun _ k => XS.iushr X356.here hx rfl (hb hby at_120) rfl k) ?_
    show own_Fin p.tables e below G (T356.setTop (mkF m 121 #[.val (.int p0), .val (.int p1), .val (.int p2), .val (.int p3), .val (.int p4), .val (.int p5), .val (.ref f1), .val (.ref g1), .val (.ref f2), .val (.ref g2), .val (.int pl), .val (.int pm), .val (.ref b319), .val (.ref b339), .unset, .unset, .unset] [(.int ((p4.toUInt32 >>> ((4 : Int32) &&& 31).toUInt32).toInt32))]))
    refine own_go (fun _ k => XS.iconst X356.here hx rfl (hb hby at_121)  k) ?_
    show own_Fin p.tables e below G (T356.setTop (mkF m 122 #[.val (.int p0), .val (.int p1), .val (.int p2), .val (.int p3), .val (.int p4), .val (.int p5), .val (.ref f1), .val (.ref g1), .val (.ref f2), .val (.ref g2), .val (.int pl), .val (.int pm), .val (.ref b319), .val (.ref b339), .unset, .unset, .unset] [(.int (3 : Int32)), (.int ((p4.toUInt32 >>> ((4 : Int32) &&& 31).toUInt32).toInt32))]))
    refine own_go (fun _ k => XS.iand X356.here hx rfl (hb hby at_122) rfl k) ?_
    show own_Fin p.tables e below G (T356.setTop (mkF m 123 #[.val (.int p0), .val (.int p1), .val (.int p2), .val (.int p3), .val (.int p4), .val (.int p5), .val (.ref f1), .val (.ref g1), .val (.ref f2), .val (.ref g2), .val (.int pl), .val (.int pm), .val (.ref b319), .val (.ref b339), .unset, .unset, .unset] [(.int (((p4.toUInt32 >>> ((4 : Int32) &&& 31).toUInt32).toInt32) &&& (3 : Int32)))]))
    generalize (((p4.toUInt32 >>> ((4 : Int32) &&& 31).toUInt32).toInt32) &&& (3 : Int32)) = md
    have Q1 := S1.keep0 K368
    have Q2 := S2.keep0 K368
    have Q3 := S3.keep0 K368
    have Q4 := S4.keep0 K368
    refine own_go (fun _ k => XS.istore X356.here hx rfl (hb hby at_123) rfl (l' := #[.val (.int p0), .val (.int p1), .val (.int p2), .val (.int p3), .val (.int p4), .val (.int p5), .val (.ref f1), .val (.ref g1), .val (.ref f2), .val (.ref g2), .val (.int pl), .val (.int pm), .val (.ref b319), .val (.ref b339), .val (.int md), .unset, .unset]) rfl k) ?_
    show own_Fin p.tables e below G (T356.setTop (mkF m 125 #[.val (.int p0), .val (.int p1), .val (.int p2), .val (.int p3), .val (.int p4), .val (.int p5), .val (.ref f1), .val (.ref g1), .val (.ref f2), .val (.ref g2), .val (.int pl), .val (.int pm), .val (.ref b319), .val (.ref b339), .val (.int md), .unset, .unset] []))
    refine own_go (fun _ k => XS.iload X356.here hx rfl (hb hby at_125) rfl k) ?_
    show own_Fin p.tables e below G (T356.setTop (mkF m 127 #[.val (.int p0), .val (.int p1), .val (.int p2), .val (.int p3), .val (.int p4), .val (.int p5), .val (.ref f1), .val (.ref g1), .val (.ref f2), .val (.ref g2), .val (.int pl), .val (.int pm), .val (.ref b319), .val (.ref b339), .val (.int md), .unset, .unset] [(.int md)]))
    refine own_go (fun _ k => XS.iconst X356.here hx rfl (hb hby at_127)  k) ?_
    show own_Fin p.tables e below G (T356.setTop (mkF m 128 #[.val (.int p0), .val (.int p1), .val (.int p2), .val (.int p3), .val (.int p4), .val (.int p5), .val (.ref f1), .val (.ref g1), .val (.ref f2), .val (.ref g2), .val (.int pl), .val (.int pm), .val (.ref b319), .val (.ref b339), .val (.int md), .unset, .unset] [(.int (1 : Int32)), (.int md)]))
    by_cases hm1 : md = (1 : Int32)
    · refine own_go (fun _ k => XS.icmpNo X356.here hx rfl (hb hby at_128) rfl (Jvm.Free.XT.ii_ne_f hm1) k) ?_
      show own_Fin p.tables e below G (T356.setTop (mkF m 131 #[.val (.int p0), .val (.int p1), .val (.int p2), .val (.int p3), .val (.int p4), .val (.int p5), .val (.ref f1), .val (.ref g1), .val (.ref f2), .val (.ref g2), .val (.int pl), .val (.int pm), .val (.ref b319), .val (.ref b339), .val (.int md), .unset, .unset] []))
      refine own_go (fun _ k => XS.aload X356.here hx rfl (hb hby at_131) rfl rfl k) ?_
      show own_Fin p.tables e below G (T356.setTop (mkF m 133 #[.val (.int p0), .val (.int p1), .val (.int p2), .val (.int p3), .val (.int p4), .val (.int p5), .val (.ref f1), .val (.ref g1), .val (.ref f2), .val (.ref g2), .val (.int pl), .val (.int pm), .val (.ref b319), .val (.ref b339), .val (.int md), .unset, .unset] [(.ref b319)]))
      refine own_go (fun _ k => XS.iloadN X356.here hx rfl (hb hby at_133) rfl k) ?_
      show own_Fin p.tables e below G (T356.setTop (mkF m 134 #[.val (.int p0), .val (.int p1), .val (.int p2), .val (.int p3), .val (.int p4), .val (.int p5), .val (.ref f1), .val (.ref g1), .val (.ref f2), .val (.ref g2), .val (.int pl), .val (.int pm), .val (.ref b319), .val (.ref b339), .val (.int md), .unset, .unset] [(.int p2), (.ref b319)]))
      obtain ⟨_, _, ⟨T369, L369, k369, n369⟩, -, X369, ⟨Lc369, hQ369, l369, y369, z369⟩, st369⟩ := Jvm.LawKit.callS X356 hx (y := (⟨"java/lang/Integer", "valueOf", "(I)Ljava/lang/Integer;"⟩ : MethodName)) hown356 (mvT hZ356 (own_at hw 77 rfl)) (mvT hZ356 (own_at hw 78 rfl)) (mvT hZ356 (own_at hw 79 rfl)) (mvT hZ356 (own_at hw 80 rfl)) (by decide) (backOf (W := 1) (own_ivo l Z a0 hw [] p2 oc cc T356.heap n0 O367 SC SH BX) hZ356 (own_at hw 80 rfl) (own_at hw 79 rfl) (by decide) (by decide)) (g := (mkF m 134 #[.val (.int p0), .val (.int p1), .val (.int p2), .val (.int p3), .val (.int p4), .val (.int p5), .val (.ref f1), .val (.ref g1), .val (.ref f2), .val (.ref g2), .val (.int pl), .val (.int pm), .val (.ref b319), .val (.ref b339), .val (.int md), .unset, .unset] [(.int p2), (.ref b319)])) rfl (by rw [hml]; rfl) (argsL := [(.int p2)]) (rest := [(.ref b319)]) (lenOf own_pd7 rfl) rfl (by show 2 * 0 + _ ≤ _; exact Nat.le_of_eq rfl) (hb hby at_134) (fun _ _ => ⟨rfl, (rfl : T356.heap = T356.heap), (by decide : 34 + 1 ≤ _), (by decide : 160 + 1 ≤ _)⟩)
      dsimp only [Pt.U, Pt.locs, Pt.cells, Pt.slots] at X369 l369 y369 z369 st369 hQ369
      subst l369 y369 z369
      obtain ⟨b369, rfl, N369q, K369, Ei369⟩ := hQ369
      have N369 := Fr.app N356 N369q
      have F370 := F357.keep K369 nin0
      have F371 := F358.keep K369 nin0
      have F372 := F359.keep K369 nin0
      have F373 := F360.keep K369 nin0
      have F374 := Ff356.keep K369 nin0
      have F375 := Fp356.keep K369 nin0
      have F376 := Fq356.keep K369 nin0
      have F377 := Fg356.keep K369 nin0
      have E378 := E361.keep K369
      have E379 := E362.keep K369
      have E380 := E363.keep K369
      have E381 := E364.keep K369
      have E382 := E365.keep K369
      have E383 := E366.keep K369
      have O384 := O367.keep K369 all0
      have K385 := K368.trans K369 all0
      have hk386 := Nat.le_trans hkk356 K369.1
      refine own_go st369 ?_
      show own_Fin p.tables e below G (T369.setTop (mkF m 137 #[.val (.int p0), .val (.int p1), .val (.int p2), .val (.int p3), .val (.int p4), .val (.int p5), .val (.ref f1), .val (.ref g1), .val (.ref f2), .val (.ref g2), .val (.int pl), .val (.int pm), .val (.ref b319), .val (.ref b339), .val (.int md), .unset, .unset] [(.ref b369), (.ref b319)]))
      obtain ⟨cq387, kq387, q387a, q387b, q387c⟩ := isOf (s := (s.setVm T356.vm)) hZ356 (rfl : T369.heap = T369.heap) E382
      obtain ⟨_, _, ⟨T387, L387, k387, n387⟩, -, X387, ⟨Lc387, hQ387, l387, y387, z387⟩, st387⟩ := X369.virtualBack hx (y := (⟨"com/example/tagwright/tagwright/diag/Diagnostic", "equals", "(Ljava/lang/Object;)Z"⟩ : MethodName)) (z := (⟨"com/example/tagwright/tagwright/diag/Diagnostic", "equals", "(Ljava/lang/Object;)Z"⟩ : MethodName)) hown356 (mvT hZ356 (own_at hw 69 rfl)) (mvT hZ356 (own_at hw 70 rfl)) (notFace_of_selects (args := #[]) (mvT hZ356 (own_at hw 72 rfl))) (mvT hZ356 (own_at hw 72 rfl)) (mvT hZ356 (own_at hw 71 rfl)) (by decide) (backOf (W := 0) (own_eqIn l Z a0 hw [] b319 b369 T369.heap n0 O384 Ei369) hZ356 (own_at hw 73 rfl) (own_at hw 39 rfl) (by decide) (by decide)) q387a q387c (g := (mkF m 137 #[.val (.int p0), .val (.int p1), .val (.int p2), .val (.int p3), .val (.int p4), .val (.int p5), .val (.ref f1), .val (.ref g1), .val (.ref f2), .val (.ref g2), .val (.int pl), .val (.int pm), .val (.ref b319), .val (.ref b339), .val (.int md), .unset, .unset] [(.ref b369), (.ref b319)])) rfl (by rw [hml]; rfl) (Steps.refl _) (argsL := [(.ref b369)]) (rest := []) (lenOf own_pd1 rfl) rfl (by show 2 * 0 + _ ≤ _; exact Nat.le_of_eq rfl) (hb hby at_137) (fun _ _ => ⟨rfl, (rfl : T369.heap = T369.heap), (by decide : 35 + 0 ≤ _), (by decide : 161 + 0 ≤ _)⟩)
      dsimp only [Pt.U, Pt.locs, Pt.cells, Pt.slots] at X387 l387 y387 z387 st387 hQ387
      subst l387 y387 z387
      obtain ⟨rfl, N387q, e387⟩ := hQ387
      have N387 := Fr.app N369 N387q
      refine own_go (fun _ k => st387.trans k) ?_
      show own_Fin p.tables e below G (T387.setTop (mkF m 140 #[.val (.int p0), .val (.int p1), .val (.int p2), .val (.int p3), .val (.int p4), .val (.int p5), .val (.ref f1), .val (.ref g1), .val (.ref f2), .val (.ref g2), .val (.int pl), .val (.int pm), .val (.ref b319), .val (.ref b339), .val (.int md), .unset, .unset] [(.int (0 : Int32))]))
      refine own_go (fun _ k => XS.ifNo X387.here hx rfl (hb hby at_140) rfl (Jvm.Free.XT.i0_ne_f (by decide)) k) ?_
      show own_Fin p.tables e below G (T387.setTop (mkF m 143 #[.val (.int p0), .val (.int p1), .val (.int p2), .val (.int p3), .val (.int p4), .val (.int p5), .val (.ref f1), .val (.ref g1), .val (.ref f2), .val (.ref g2), .val (.int pl), .val (.int pm), .val (.ref b319), .val (.ref b339), .val (.int md), .unset, .unset] []))
      refine own_go (fun _ k => XS.iconst X387.here hx rfl (hb hby at_143)  k) ?_
      show own_Fin p.tables e below G (T387.setTop (mkF m 144 #[.val (.int p0), .val (.int p1), .val (.int p2), .val (.int p3), .val (.int p4), .val (.int p5), .val (.ref f1), .val (.ref g1), .val (.ref f2), .val (.ref g2), .val (.int pl), .val (.int pm), .val (.ref b319), .val (.ref b339), .val (.int md), .unset, .unset] [(.int (1 : Int32))]))
      refine own_go (fun _ k => XS.goto X387.here hx rfl (pc0 := 144) (pc' := 148) rfl (hb hby at_144) (by decide) (by decide) k) ?_
      show own_Fin p.tables e below G (T387.setTop (mkF m 148 #[.val (.int p0), .val (.int p1), .val (.int p2), .val (.int p3), .val (.int p4), .val (.int p5), .val (.ref f1), .val (.ref g1), .val (.ref f2), .val (.ref g2), .val (.int pl), .val (.int pm), .val (.ref b319), .val (.ref b339), .val (.int md), .unset, .unset] [(.int (1 : Int32))]))
      subst hG
      exact own_rvW (s := s) X387 SS356 (own_hk e387 hk386) hx (t := .boolean) Bd.returns rfl (Or.inl ⟨rfl, Or.inr (Or.inl rfl), _, rfl⟩) (hb hby at_148) Bd.notSynchronized (by decide) (by decide) ⟨rfl, N387⟩
    · refine own_go (fun _ k => XS.icmpYes X356.here hx rfl (pc0 := 128) (pc' := 149) rfl (hb hby at_128) rfl (Jvm.Free.XT.ii_ne_t hm1) (by decide) (by decide) k) ?_
      show own_Fin p.tables e below G (T356.setTop (mkF m 149 #[.val (.int p0), .val (.int p1), .val (.int p2), .val (.int p3), .val (.int p4), .val (.int p5), .val (.ref f1), .val (.ref g1), .val (.ref f2), .val (.ref g2), .val (.int pl), .val (.int pm), .val (.ref b319), .val (.ref b339), .val (.int md), .unset, .unset] []))
      refine own_go (fun _ k => XS.iload X356.here hx rfl (hb hby at_149) rfl k) ?_
      show own_Fin p.tables e below G (T356.setTop (mkF m 151 #[.val (.int p0), .val (.int p1), .val (.int p2), .val (.int p3), .val (.int p4), .val (.int p5), .val (.ref f1), .val (.ref g1), .val (.ref f2), .val (.ref g2), .val (.int pl), .val (.int pm), .val (.ref b319), .val (.ref b339), .val (.int md), .unset, .unset] [(.int md)]))
      refine own_go (fun _ k => XS.iconst X356.here hx rfl (hb hby at_151)  k) ?_
      show own_Fin p.tables e below G (T356.setTop (mkF m 152 #[.val (.int p0), .val (.int p1), .val (.int p2), .val (.int p3), .val (.int p4), .val (.int p5), .val (.ref f1), .val (.ref g1), .val (.ref f2), .val (.ref g2), .val (.int pl), .val (.int pm), .val (.ref b319), .val (.ref b339), .val (.int md), .unset, .unset] [(.int (2 : Int32)), (.int md)]))
      by_cases hm2 : md = (2 : Int32)
      · refine own_go (fun _ k => XS.icmpNo X356.here hx rfl (hb hby at_152) rfl (Jvm.Free.XT.ii_ne_f hm2) k) ?_
        show own_Fin p.tables e below G (T356.setTop (mkF m 155 #[.val (.int p0), .val (.int p1), .val (.int p2), .val (.int p3), .val (.int p4), .val (.int p5), .val (.ref f1), .val (.ref g1), .val (.ref f2), .val (.ref g2), .val (.int pl), .val (.int pm), .val (.ref b319), .val (.ref b339), .val (.int md), .unset, .unset] []))
        refine own_go (fun _ k => XS.aload X356.here hx rfl (hb hby at_155) rfl rfl k) ?_
        show own_Fin p.tables e below G (T356.setTop (mkF m 157 #[.val (.int p0), .val (.int p1), .val (.int p2), .val (.int p3), .val (.int p4), .val (.int p5), .val (.ref f1), .val (.ref g1), .val (.ref f2), .val (.ref g2), .val (.int pl), .val (.int pm), .val (.ref b319), .val (.ref b339), .val (.int md), .unset, .unset] [(.ref b319)]))
        refine own_go (fun _ k => XS.aconstNull X356.here hx rfl (hb hby at_157)  k) ?_
        show own_Fin p.tables e below G (T356.setTop (mkF m 158 #[.val (.int p0), .val (.int p1), .val (.int p2), .val (.int p3), .val (.int p4), .val (.int p5), .val (.ref f1), .val (.ref g1), .val (.ref f2), .val (.ref g2), .val (.int pl), .val (.int pm), .val (.ref b319), .val (.ref b339), .val (.int md), .unset, .unset] [.null, (.ref b319)]))
        obtain ⟨cq388, kq388, q388a, q388b, q388c⟩ := isOf (s := (s.setVm T356.vm)) hZ356 (rfl : T356.heap = T356.heap) E365
        obtain ⟨_, _, ⟨T388, L388, k388, n388⟩, -, X388, ⟨Lc388, hQ388, l388, y388, z388⟩, st388⟩ := X356.virtualBack hx (y := (⟨"com/example/tagwright/tagwright/diag/Diagnostic", "equals", "(Ljava/lang/Object;)Z"⟩ : MethodName)) (z := (⟨"com/example/tagwright/tagwright/diag/Diagnostic", "equals", "(Ljava/lang/Object;)Z"⟩ : MethodName)) hown356 (mvT hZ356 (own_at hw 69 rfl)) (mvT hZ356 (own_at hw 70 rfl)) (notFace_of_selects (args := #[]) (mvT hZ356 (own_at hw 72 rfl))) (mvT hZ356 (own_at hw 72 rfl)) (mvT hZ356 (own_at hw 71 rfl)) (by decide) (backOf (W := 0) (own_eq0 l Z a0 hw [] b319 T356.heap n0 O367) hZ356 (own_at hw 73 rfl) (own_at hw 39 rfl) (by decide) (by decide)) q388a q388c (g := (mkF m 158 #[.val (.int p0), .val (.int p1), .val (.int p2), .val (.int p3), .val (.int p4), .val (.int p5), .val (.ref f1), .val (.ref g1), .val (.ref f2), .val (.ref g2), .val (.int pl), .val (.int pm), .val (.ref b319), .val (.ref b339), .val (.int md), .unset, .unset] [.null, (.ref b319)])) rfl (by rw [hml]; rfl) (Steps.refl _) (argsL := [.null]) (rest := []) (lenOf own_pd1 rfl) rfl (by show 2 * 0 + _ ≤ _; exact Nat.le_of_eq rfl) (hb hby at_158) (fun _ _ => ⟨rfl, (rfl : T356.heap = T356.heap), (by decide : 34 + 0 ≤ _), (by decide : 160 + 0 ≤ _)⟩)
        dsimp only [Pt.U, Pt.locs, Pt.cells, Pt.slots] at X388 l388 y388 z388 st388 hQ388
        subst l388 y388 z388
        obtain ⟨rfl, N388q, e388⟩ := hQ388
        have N388 := Fr.app N356 N388q
        refine own_go (fun _ k => st388.trans k) ?_
        show own_Fin p.tables e below G (T388.setTop (mkF m 161 #[.val (.int p0), .val (.int p1), .val (.int p2), .val (.int p3), .val (.int p4), .val (.int p5), .val (.ref f1), .val (.ref g1), .val (.ref f2), .val (.ref g2), .val (.int pl), .val (.int pm), .val (.ref b319), .val (.ref b339), .val (.int md), .unset, .unset] [(.int (0 : Int32))]))
        refine own_go (fun _ k => XS.ifNo X388.here hx rfl (hb hby at_161) rfl (Jvm.Free.XT.i0_ne_f (by decide)) k) ?_
        show own_Fin p.tables e below G (T388.setTop (mkF m 164 #[.val (.int p0), .val (.int p1), .val (.int p2), .val (.int p3), .val (.int p4), .val (.int p5), .val (.ref f1), .val (.ref g1), .val (.ref f2), .val (.ref g2), .val (.int pl), .val (.int pm), .val (.ref b319), .val (.ref b339), .val (.int md), .unset, .unset] []))
        refine own_go (fun _ k => XS.iconst X388.here hx rfl (hb hby at_164)  k) ?_
        show own_Fin p.tables e below G (T388.setTop (mkF m 165 #[.val (.int p0), .val (.int p1), .val (.int p2), .val (.int p3), .val (.int p4), .val (.int p5), .val (.ref f1), .val (.ref g1), .val (.ref f2), .val (.ref g2), .val (.int pl), .val (.int pm), .val (.ref b319), .val (.ref b339), .val (.int md), .unset, .unset] [(.int (1 : Int32))]))
        refine own_go (fun _ k => XS.goto X388.here hx rfl (pc0 := 165) (pc' := 169) rfl (hb hby at_165) (by decide) (by decide) k) ?_
        show own_Fin p.tables e below G (T388.setTop (mkF m 169 #[.val (.int p0), .val (.int p1), .val (.int p2), .val (.int p3), .val (.int p4), .val (.int p5), .val (.ref f1), .val (.ref g1), .val (.ref f2), .val (.ref g2), .val (.int pl), .val (.int pm), .val (.ref b319), .val (.ref b339), .val (.int md), .unset, .unset] [(.int (1 : Int32))]))
        subst hG
        exact own_rvW (s := s) X388 SS356 (own_hk e388 hkk356) hx (t := .boolean) Bd.returns rfl (Or.inl ⟨rfl, Or.inr (Or.inl rfl), _, rfl⟩) (hb hby at_169) Bd.notSynchronized (by decide) (by decide) ⟨rfl, N388⟩
      · refine own_go (fun _ k => XS.icmpYes X356.here hx rfl (pc0 := 152) (pc' := 170) rfl (hb hby at_152) rfl (Jvm.Free.XT.ii_ne_t hm2) (by decide) (by decide) k) ?_
        show own_Fin p.tables e below G (T356.setTop (mkF m 170 #[.val (.int p0), .val (.int p1), .val (.int p2), .val (.int p3), .val (.int p4), .val (.int p5), .val (.ref f1), .val (.ref g1), .val (.ref f2), .val (.ref g2), .val (.int pl), .val (.int pm), .val (.ref b319), .val (.ref b339), .val (.int md), .unset, .unset] []))
        suffices own_k209 : ∀ (T : State) (locs : List Loc) (X : Stand p l e room_1 (s.setVm T356.vm) m #[(.int p0), (.int p1), (.int p2), (.int p3), (.int p4), (.int p5)] below meth c T locs 34 160) (eT : T.heap = T356.heap) (N : Fr n0 locs), own_Fin p.tables e below G (T.setTop (mkF m 209 #[.val (.int p0), .val (.int p1), .val (.int p2), .val (.int p3), .val (.int p4), .val (.int p5), .val (.ref f1), .val (.ref g1), .val (.ref f2), .val (.ref g2), .val (.int pl), .val (.int pm), .val (.ref b319), .val (.ref b339), .val (.int md), .val (.int (own_bi (decide ((own_cs p0) = y2) && (decide (p2 = pl) && (decide (p3 = pm) && decide ((own_cs p1) = z2)))))), .unset] [])) by
          refine own_go (fun _ k => XS.aload X356.here hx rfl (hb hby at_170) rfl rfl k) ?_
          show own_Fin p.tables e below G (T356.setTop (mkF m 172 #[.val (.int p0), .val (.int p1), .val (.int p2), .val (.int p3), .val (.int p4), .val (.int p5), .val (.ref f1), .val (.ref g1), .val (.ref f2), .val (.ref g2), .val (.int pl), .val (.int pm), .val (.ref b319), .val (.ref b339), .val (.int md), .unset, .unset] [(.ref f1)]))
          refine own_go (fun _ k => XS.aload X356.here hx rfl (hb hby at_172) rfl rfl k) ?_
          show own_Fin p.tables e below G (T356.setTop (mkF m 174 #[.val (.int p0), .val (.int p1), .val (.int p2), .val (.int p3), .val (.int p4), .val (.int p5), .val (.ref f1), .val (.ref g1), .val (.ref f2), .val (.ref g2), .val (.int pl), .val (.int pm), .val (.ref b319), .val (.ref b339), .val (.int md), .unset, .unset] [(.ref f2), (.ref f1)]))
          obtain ⟨tx389, kbx389, Ex389, Cx389, Vx389, Kx389, hpx389, hlx389⟩ := Q1
          obtain ⟨ty389, kby389, Ey389, Cy389, Vy389, Ky389, hpy389, hly389⟩ := Q3
          obtain ⟨cq390, kq390, q390a, q390b, q390c⟩ := isOf (s := (s.setVm T356.vm)) hZ356 (rfl : T356.heap = T356.heap) Ex389
          obtain ⟨_, _, ⟨T390, L390, k390, n390⟩, -, X390, ⟨Lc390, hQ390, l390, y390, z390⟩, st390⟩ := X356.virtualBack hx (y := (⟨"java/lang/String", "equals", "(Ljava/lang/Object;)Z"⟩ : MethodName)) (z := (⟨"java/lang/String", "equals", "(Ljava/lang/Object;)Z"⟩ : MethodName)) hown356 (mvT hZ356 (own_at hw 59 rfl)) (mvT hZ356 (own_at hw 60 rfl)) (notFace_of_selects (args := #[]) (mvT hZ356 (own_at hw 62 rfl))) (mvT hZ356 (own_at hw 62 rfl)) (mvT hZ356 (own_at hw 61 rfl)) (by decide) (StrChars.Road.eqW (R := room_1) (s := (s.setVm T356.vm)) (W := 0) hZ356 (own_weq hw) (kI := 4) (own_at hw 5 rfl) Ex389 Vx389 Cx389 Kx389 (StrChars.Road.codOf rfl fun c hc => (hpx389 c hc).2) (own_up hpx389) (Nat.le_trans hlx389 (by decide)) Ey389 Vy389 Cy389 Ky389 (StrChars.Road.codOf rfl fun c hc => (hpy389 c hc).2) (own_up hpy389) (Nat.le_trans hly389 (by decide)) (SCS.ext O367.2) hcs (by decide) (by decide)) q390a q390c (g := (mkF m 174 #[.val (.int p0), .val (.int p1), .val (.int p2), .val (.int p3), .val (.int p4), .val (.int p5), .val (.ref f1), .val (.ref g1), .val (.ref f2), .val (.ref g2), .val (.int pl), .val (.int pm), .val (.ref b319), .val (.ref b339), .val (.int md), .unset, .unset] [(.ref f2), (.ref f1)])) rfl (by rw [hml]; rfl) (Steps.refl _) (argsL := [(.ref f2)]) (rest := []) (lenOf own_pd1 rfl) rfl (by show 2 * 0 + _ ≤ _; exact Nat.le_of_eq rfl) (hb hby at_174) (fun _ _ => ⟨rfl, (rfl : T356.heap = T356.heap), (by decide : 34 + 0 ≤ _), (by decide : 160 + 0 ≤ _)⟩)
          dsimp only [Pt.U, Pt.locs, Pt.cells, Pt.slots] at X390 l390 y390 z390 st390 hQ390
          subst l390 y390 z390
          obtain ⟨hv390, rfl, e390⟩ := hQ390
          obtain rfl := own_eqv hv390
          have N390 := Fr.app N356 (Fr.nil n0)
          refine own_go (fun _ k => st390.trans k) ?_
          show own_Fin p.tables e below G (T390.setTop (mkF m 177 #[.val (.int p0), .val (.int p1), .val (.int p2), .val (.int p3), .val (.int p4), .val (.int p5), .val (.ref f1), .val (.ref g1), .val (.ref f2), .val (.ref g2), .val (.int pl), .val (.int pm), .val (.ref b319), .val (.ref b339), .val (.int md), .unset, .unset] [(.int (own_bi (decide ((own_cs p0) = y2))))]))
          rcases own_tf (decide ((own_cs p0) = y2)) with hc177 | hc177
          · refine own_go (fun _ k => XS.ifNo X390.here hx rfl (hb hby at_177) rfl (Jvm.Free.XT.i0_eq_f (own_bi1 hc177)) k) ?_
            show own_Fin p.tables e below G (T390.setTop (mkF m 180 #[.val (.int p0), .val (.int p1), .val (.int p2), .val (.int p3), .val (.int p4), .val (.int p5), .val (.ref f1), .val (.ref g1), .val (.ref f2), .val (.ref g2), .val (.int pl), .val (.int pm), .val (.ref b319), .val (.ref b339), .val (.int md), .unset, .unset] []))
            refine own_go (fun _ k => XS.iloadN X390.here hx rfl (hb hby at_180) rfl k) ?_
            show own_Fin p.tables e below G (T390.setTop (mkF m 181 #[.val (.int p0), .val (.int p1), .val (.int p2), .val (.int p3), .val (.int p4), .val (.int p5), .val (.ref f1), .val (.ref g1), .val (.ref f2), .val (.ref g2), .val (.int pl), .val (.int pm), .val (.ref b319), .val (.ref b339), .val (.int md), .unset, .unset] [(.int p2)]))
            refine own_go (fun _ k => XS.iload X390.here hx rfl (hb hby at_181) rfl k) ?_
            show own_Fin p.tables e below G (T390.setTop (mkF m 183 #[.val (.int p0), .val (.int p1), .val (.int p2), .val (.int p3), .val (.int p4), .val (.int p5), .val (.ref f1), .val (.ref g1), .val (.ref f2), .val (.ref g2), .val (.int pl), .val (.int pm), .val (.ref b319), .val (.ref b339), .val (.int md), .unset, .unset] [(.int pl), (.int p2)]))
            by_cases hc183 : p2 = pl
            · refine own_go (fun _ k => XS.icmpNo X390.here hx rfl (hb hby at_183) rfl (Jvm.Free.XT.ii_ne_f hc183) k) ?_
              show own_Fin p.tables e below G (T390.setTop (mkF m 186 #[.val (.int p0), .val (.int p1), .val (.int p2), .val (.int p3), .val (.int p4), .val (.int p5), .val (.ref f1), .val (.ref g1), .val (.ref f2), .val (.ref g2), .val (.int pl), .val (.int pm), .val (.ref b319), .val (.ref b339), .val (.int md), .unset, .unset] []))
              refine own_go (fun _ k => XS.iloadN X390.here hx rfl (hb hby at_186) rfl k) ?_
              show own_Fin p.tables e below G (T390.setTop (mkF m 187 #[.val (.int p0), .val (.int p1), .val (.int p2), .val (.int p3), .val (.int p4), .val (.int p5), .val (.ref f1), .val (.ref g1), .val (.ref f2), .val (.ref g2), .val (.int pl), .val (.int pm), .val (.ref b319), .val (.ref b339), .val (.int md), .unset, .unset] [(.int p3)]))
              refine own_go (fun _ k => XS.iload X390.here hx rfl (hb hby at_187) rfl k) ?_
              show own_Fin p.tables e below G (T390.setTop (mkF m 189 #[.val (.int p0), .val (.int p1), .val (.int p2), .val (.int p3), .val (.int p4), .val (.int p5), .val (.ref f1), .val (.ref g1), .val (.ref f2), .val (.ref g2), .val (.int pl), .val (.int pm), .val (.ref b319), .val (.ref b339), .val (.int md), .unset, .unset] [(.int pm), (.int p3)]))
              by_cases hc189 : p3 = pm
              · refine own_go (fun _ k => XS.icmpNo X390.here hx rfl (hb hby at_189) rfl (Jvm.Free.XT.ii_ne_f hc189) k) ?_
                show own_Fin p.tables e below G (T390.setTop (mkF m 192 #[.val (.int p0), .val (.int p1), .val (.int p2), .val (.int p3), .val (.int p4), .val (.int p5), .val (.ref f1), .val (.ref g1), .val (.ref f2), .val (.ref g2), .val (.int pl), .val (.int pm), .val (.ref b319), .val (.ref b339), .val (.int md), .unset, .unset] []))
                refine own_go (fun _ k => XS.aload X390.here hx rfl (hb hby at_192) rfl rfl k) ?_
                show own_Fin p.tables e below G (T390.setTop (mkF m 194 #[.val (.int p0), .val (.int p1), .val (.int p2), .val (.int p3), .val (.int p4), .val (.int p5), .val (.ref f1), .val (.ref g1), .val (.ref f2), .val (.ref g2), .val (.int pl), .val (.int pm), .val (.ref b319), .val (.ref b339), .val (.int md), .unset, .unset] [(.ref g1)]))
                refine own_go (fun _ k => XS.aload X390.here hx rfl (hb hby at_194) rfl rfl k) ?_
                show own_Fin p.tables e below G (T390.setTop (mkF m 196 #[.val (.int p0), .val (.int p1), .val (.int p2), .val (.int p3), .val (.int p4), .val (.int p5), .val (.ref f1), .val (.ref g1), .val (.ref f2), .val (.ref g2), .val (.int pl), .val (.int pm), .val (.ref b319), .val (.ref b339), .val (.int md), .unset, .unset] [(.ref g2), (.ref g1)]))
                obtain ⟨tx391, kbx391, Ex391, Cx391, Vx391, Kx391, hpx391, hlx391⟩ := Q2
                obtain ⟨ty391, kby391, Ey391, Cy391, Vy391, Ky391, hpy391, hly391⟩ := Q4
                obtain ⟨cq392, kq392, q392a, q392b, q392c⟩ := isOf (s := (s.setVm T356.vm)) hZ356 e390 Ex391
                obtain ⟨_, _, ⟨T392, L392, k392, n392⟩, -, X392, ⟨Lc392, hQ392, l392, y392, z392⟩, st392⟩ := X390.virtualBack hx (y := (⟨"java/lang/String", "equals", "(Ljava/lang/Object;)Z"⟩ : MethodName)) (z := (⟨"java/lang/String", "equals", "(Ljava/lang/Object;)Z"⟩ : MethodName)) hown356 (mvT hZ356 (own_at hw 59 rfl)) (mvT hZ356 (own_at hw 60 rfl)) (notFace_of_selects (args := #[]) (mvT hZ356 (own_at hw 62 rfl))) (mvT hZ356 (own_at hw 62 rfl)) (mvT hZ356 (own_at hw 61 rfl)) (by decide) (StrChars.Road.eqW (R := room_1) (s := (s.setVm T356.vm)) (W := 0) hZ356 (own_weq hw) (kI := 4) (own_at hw 5 rfl) Ex391 Vx391 Cx391 Kx391 (StrChars.Road.codOf rfl fun c hc => (hpx391 c hc).2) (own_up hpx391) (Nat.le_trans hlx391 (by decide)) Ey391 Vy391 Cy391 Ky391 (StrChars.Road.codOf rfl fun c hc => (hpy391 c hc).2) (own_up hpy391) (Nat.le_trans hly391 (by decide)) (SCS.ext O367.2) hcs (by decide) (by decide)) q392a q392c (g := (mkF m 196 #[.val (.int p0), .val (.int p1), .val (.int p2), .val (.int p3), .val (.int p4), .val (.int p5), .val (.ref f1), .val (.ref g1), .val (.ref f2), .val (.ref g2), .val (.int pl), .val (.int pm), .val (.ref b319), .val (.ref b339), .val (.int md), .unset, .unset] [(.ref g2), (.ref g1)])) rfl (by rw [hml]; rfl) (Steps.refl _) (argsL := [(.ref g2)]) (rest := []) (lenOf own_pd1 rfl) rfl (by show 2 * 0 + _ ≤ _; exact Nat.le_of_eq rfl) (hb hby at_196) (fun _ _ => ⟨rfl, e390, (by decide : 34 + 0 ≤ _), (by decide : 160 + 0 ≤ _)⟩)
                dsimp only [Pt.U, Pt.locs, Pt.cells, Pt.slots] at X392 l392 y392 z392 st392 hQ392
                subst l392 y392 z392
                obtain ⟨hv392, rfl, e392⟩ := hQ392
                obtain rfl := own_eqv hv392
                have N392 := Fr.app N390 (Fr.nil n0)
                refine own_go (fun _ k => st392.trans k) ?_
                show own_Fin p.tables e below G (T392.setTop (mkF m 199 #[.val (.int p0), .val (.int p1), .val (.int p2), .val (.int p3), .val (.int p4), .val (.int p5), .val (.ref f1), .val (.ref g1), .val (.ref f2), .val (.ref g2), .val (.int pl), .val (.int pm), .val (.ref b319), .val (.ref b339), .val (.int md), .unset, .unset] [(.int (own_bi (decide ((own_cs p1) = z2))))]))
                rcases own_tf (decide ((own_cs p1) = z2)) with hc199 | hc199
                · refine own_go (fun _ k => XS.ifNo X392.here hx rfl (hb hby at_199) rfl (Jvm.Free.XT.i0_eq_f (own_bi1 hc199)) k) ?_
                  show own_Fin p.tables e below G (T392.setTop (mkF m 202 #[.val (.int p0), .val (.int p1), .val (.int p2), .val (.int p3), .val (.int p4), .val (.int p5), .val (.ref f1), .val (.ref g1), .val (.ref f2), .val (.ref g2), .val (.int pl), .val (.int pm), .val (.ref b319), .val (.ref b339), .val (.int md), .unset, .unset] []))
                  refine own_go (fun _ k => XS.iconst X392.here hx rfl (hb hby at_202)  k) ?_
                  show own_Fin p.tables e below G (T392.setTop (mkF m 203 #[.val (.int p0), .val (.int p1), .val (.int p2), .val (.int p3), .val (.int p4), .val (.int p5), .val (.ref f1), .val (.ref g1), .val (.ref f2), .val (.ref g2), .val (.int pl), .val (.int pm), .val (.ref b319), .val (.ref b339), .val (.int md), .unset, .unset] [(.int (1 : Int32))]))
                  refine own_go (fun _ k => XS.goto X392.here hx rfl (pc0 := 203) (pc' := 207) rfl (hb hby at_203) (by decide) (by decide) k) ?_
                  show own_Fin p.tables e below G (T392.setTop (mkF m 207 #[.val (.int p0), .val (.int p1), .val (.int p2), .val (.int p3), .val (.int p4), .val (.int p5), .val (.ref f1), .val (.ref g1), .val (.ref f2), .val (.ref g2), .val (.int pl), .val (.int pm), .val (.ref b319), .val (.ref b339), .val (.int md), .unset, .unset] [(.int (1 : Int32))]))
                  rw [show (1 : Int32) = own_bi (decide ((own_cs p0) = y2) && (decide (p2 = pl) && (decide (p3 = pm) && decide ((own_cs p1) = z2)))) by simp [own_bi, of_decide_eq_true hc177, hc183, hc189, of_decide_eq_true hc199]]
                  show own_Fin p.tables e below G (T392.setTop (mkF m 207 #[.val (.int p0), .val (.int p1), .val (.int p2), .val (.int p3), .val (.int p4), .val (.int p5), .val (.ref f1), .val (.ref g1), .val (.ref f2), .val (.ref g2), .val (.int pl), .val (.int pm), .val (.ref b319), .val (.ref b339), .val (.int md), .unset, .unset] [(.int (own_bi (decide ((own_cs p0) = y2) && (decide (p2 = pl) && (decide (p3 = pm) && decide ((own_cs p1) = z2))))))]))
                  refine own_go (fun _ k => XS.istore X392.here hx rfl (hb hby at_207) rfl (l' := #[.val (.int p0), .val (.int p1), .val (.int p2), .val (.int p3), .val (.int p4), .val (.int p5), .val (.ref f1), .val (.ref g1), .val (.ref f2), .val (.ref g2), .val (.int pl), .val (.int pm), .val (.ref b319), .val (.ref b339), .val (.int md), .val (.int (own_bi (decide ((own_cs p0) = y2) && (decide (p2 = pl) && (decide (p3 = pm) && decide ((own_cs p1) = z2)))))), .unset]) rfl k) ?_
                  show own_Fin p.tables e below G (T392.setTop (mkF m 209 #[.val (.int p0), .val (.int p1), .val (.int p2), .val (.int p3), .val (.int p4), .val (.int p5), .val (.ref f1), .val (.ref g1), .val (.ref f2), .val (.ref g2), .val (.int pl), .val (.int pm), .val (.ref b319), .val (.ref b339), .val (.int md), .val (.int (own_bi (decide ((own_cs p0) = y2) && (decide (p2 = pl) && (decide (p3 = pm) && decide ((own_cs p1) = z2)))))), .unset] []))
                  exact own_k209 _ _ X392 e392 N392
                · refine own_go (fun _ k => XS.ifYes X392.here hx rfl (pc0 := 199) (pc' := 206) rfl (hb hby at_199) rfl (Jvm.Free.XT.i0_eq_t (own_bi0 hc199)) (by decide) (by decide) k) ?_
                  show own_Fin p.tables e below G (T392.setTop (mkF m 206 #[.val (.int p0), .val (.int p1), .val (.int p2), .val (.int p3), .val (.int p4), .val (.int p5), .val (.ref f1), .val (.ref g1), .val (.ref f2), .val (.ref g2), .val (.int pl), .val (.int pm), .val (.ref b319), .val (.ref b339), .val (.int md), .unset, .unset] []))
                  refine own_go (fun _ k => XS.iconst X392.here hx rfl (hb hby at_206)  k) ?_
                  show own_Fin p.tables e below G (T392.setTop (mkF m 207 #[.val (.int p0), .val (.int p1), .val (.int p2), .val (.int p3), .val (.int p4), .val (.int p5), .val (.ref f1), .val (.ref g1), .val (.ref f2), .val (.ref g2), .val (.int pl), .val (.int pm), .val (.ref b319), .val (.ref b339), .val (.int md), .unset, .unset] [(.int (0 : Int32))]))
                  rw [show (0 : Int32) = own_bi (decide ((own_cs p0) = y2) && (decide (p2 = pl) && (decide (p3 = pm) && decide ((own_cs p1) = z2)))) by simp [own_bi, of_decide_eq_true hc177, hc183, hc189, of_decide_eq_false hc199]]
                  show own_Fin p.tables e below G (T392.setTop (mkF m 207 #[.val (.int p0), .val (.int p1), .val (.int p2), .val (.int p3), .val (.int p4), .val (.int p5), .val (.ref f1), .val (.ref g1), .val (.ref f2), .val (.ref g2), .val (.int pl), .val (.int pm), .val (.ref b319), .val (.ref b339), .val (.int md), .unset, .unset] [(.int (own_bi (decide ((own_cs p0) = y2) && (decide (p2 = pl) && (decide (p3 = pm) && decide ((own_cs p1) = z2))))))]))
                  refine own_go (fun _ k => XS.istore X392.here hx rfl (hb hby at_207) rfl (l' := #[.val (.int p0), .val (.int p1), .val (.int p2), .val (.int p3), .val (.int p4), .val (.int p5), .val (.ref f1), .val (.ref g1), .val (.ref f2), .val (.ref g2), .val (.int pl), .val (.int pm), .val (.ref b319), .val (.ref b339), .val (.int md), .val (.int (own_bi (decide ((own_cs p0) = y2) && (decide (p2 = pl) && (decide (p3 = pm) && decide ((own_cs p1) = z2)))))), .unset]) rfl k) ?_
                  show own_Fin p.tables e below G (T392.setTop (mkF m 209 #[.val (.int p0), .val (.int p1), .val (.int p2), .val (.int p3), .val (.int p4), .val (.int p5), .val (.ref f1), .val (.ref g1), .val (.ref f2), .val (.ref g2), .val (.int pl), .val (.int pm), .val (.ref b319), .val (.ref b339), .val (.int md), .val (.int (own_bi (decide ((own_cs p0) = y2) && (decide (p2 = pl) && (decide (p3 = pm) && decide ((own_cs p1) = z2)))))), .unset] []))
                  exact own_k209 _ _ X392 e392 N392
              · refine own_go (fun _ k => XS.icmpYes X390.here hx rfl (pc0 := 189) (pc' := 206) rfl (hb hby at_189) rfl (Jvm.Free.XT.ii_ne_t hc189) (by decide) (by decide) k) ?_
                show own_Fin p.tables e below G (T390.setTop (mkF m 206 #[.val (.int p0), .val (.int p1), .val (.int p2), .val (.int p3), .val (.int p4), .val (.int p5), .val (.ref f1), .val (.ref g1), .val (.ref f2), .val (.ref g2), .val (.int pl), .val (.int pm), .val (.ref b319), .val (.ref b339), .val (.int md), .unset, .unset] []))
                refine own_go (fun _ k => XS.iconst X390.here hx rfl (hb hby at_206)  k) ?_
                show own_Fin p.tables e below G (T390.setTop (mkF m 207 #[.val (.int p0), .val (.int p1), .val (.int p2), .val (.int p3), .val (.int p4), .val (.int p5), .val (.ref f1), .val (.ref g1), .val (.ref f2), .val (.ref g2), .val (.int pl), .val (.int pm), .val (.ref b319), .val (.ref b339), .val (.int md), .unset, .unset] [(.int (0 : Int32))]))
                rw [show (0 : Int32) = own_bi (decide ((own_cs p0) = y2) && (decide (p2 = pl) && (decide (p3 = pm) && decide ((own_cs p1) = z2)))) by simp [own_bi, of_decide_eq_true hc177, hc183, hc189]]
                show own_Fin p.tables e below G (T390.setTop (mkF m 207 #[.val (.int p0), .val (.int p1), .val (.int p2), .val (.int p3), .val (.int p4), .val (.int p5), .val (.ref f1), .val (.ref g1), .val (.ref f2), .val (.ref g2), .val (.int pl), .val (.int pm), .val (.ref b319), .val (.ref b339), .val (.int md), .unset, .unset] [(.int (own_bi (decide ((own_cs p0) = y2) && (decide (p2 = pl) && (decide (p3 = pm) && decide ((own_cs p1) = z2))))))]))
                refine own_go (fun _ k => XS.istore X390.here hx rfl (hb hby at_207) rfl (l' := #[.val (.int p0), .val (.int p1), .val (.int p2), .val (.int p3), .val (.int p4), .val (.int p5), .val (.ref f1), .val (.ref g1), .val (.ref f2), .val (.ref g2), .val (.int pl), .val (.int pm), .val (.ref b319), .val (.ref b339), .val (.int md), .val (.int (own_bi (decide ((own_cs p0) = y2) && (decide (p2 = pl) && (decide (p3 = pm) && decide ((own_cs p1) = z2)))))), .unset]) rfl k) ?_
                show own_Fin p.tables e below G (T390.setTop (mkF m 209 #[.val (.int p0), .val (.int p1), .val (.int p2), .val (.int p3), .val (.int p4), .val (.int p5), .val (.ref f1), .val (.ref g1), .val (.ref f2), .val (.ref g2), .val (.int pl), .val (.int pm), .val (.ref b319), .val (.ref b339), .val (.int md), .val (.int (own_bi (decide ((own_cs p0) = y2) && (decide (p2 = pl) && (decide (p3 = pm) && decide ((own_cs p1) = z2)))))), .unset] []))
                exact own_k209 _ _ X390 e390 N390
            · refine own_go (fun _ k => XS.icmpYes X390.here hx rfl (pc0 := 183) (pc' := 206) rfl (hb hby at_183) rfl (Jvm.Free.XT.ii_ne_t hc183) (by decide) (by decide) k) ?_
              show own_Fin p.tables e below G (T390.setTop (mkF m 206 #[.val (.int p0), .val (.int p1), .val (.int p2), .val (.int p3), .val (.int p4), .val (.int p5), .val (.ref f1), .val (.ref g1), .val (.ref f2), .val (.ref g2), .val (.int pl), .val (.int pm), .val (.ref b319), .val (.ref b339), .val (.int md), .unset, .unset] []))
              refine own_go (fun _ k => XS.iconst X390.here hx rfl (hb hby at_206)  k) ?_
              show own_Fin p.tables e below G (T390.setTop (mkF m 207 #[.val (.int p0), .val (.int p1), .val (.int p2), .val (.int p3), .val (.int p4), .val (.int p5), .val (.ref f1), .val (.ref g1), .val (.ref f2), .val (.ref g2), .val (.int pl), .val (.int pm), .val (.ref b319), .val (.ref b339), .val (.int md), .unset, .unset] [(.int (0 : Int32))]))
              rw [show (0 : Int32) = own_bi (decide ((own_cs p0) = y2) && (decide (p2 = pl) && (decide (p3 = pm) && decide ((own_cs p1) = z2)))) by simp [own_bi, of_decide_eq_true hc177, hc183]]
              show own_Fin p.tables e below G (T390.setTop (mkF m 207 #[.val (.int p0), .val (.int p1), .val (.int p2), .val (.int p3), .val (.int p4), .val (.int p5), .val (.ref f1), .val (.ref g1), .val (.ref f2), .val (.ref g2), .val (.int pl), .val (.int pm), .val (.ref b319), .val (.ref b339), .val (.int md), .unset, .unset] [(.int (own_bi (decide ((own_cs p0) = y2) && (decide (p2 = pl) && (decide (p3 = pm) && decide ((own_cs p1) = z2))))))]))
              refine own_go (fun _ k => XS.istore X390.here hx rfl (hb hby at_207) rfl (l' := #[.val (.int p0), .val (.int p1), .val (.int p2), .val (.int p3), .val (.int p4), .val (.int p5), .val (.ref f1), .val (.ref g1), .val (.ref f2), .val (.ref g2), .val (.int pl), .val (.int pm), .val (.ref b319), .val (.ref b339), .val (.int md), .val (.int (own_bi (decide ((own_cs p0) = y2) && (decide (p2 = pl) && (decide (p3 = pm) && decide ((own_cs p1) = z2)))))), .unset]) rfl k) ?_
              show own_Fin p.tables e below G (T390.setTop (mkF m 209 #[.val (.int p0), .val (.int p1), .val (.int p2), .val (.int p3), .val (.int p4), .val (.int p5), .val (.ref f1), .val (.ref g1), .val (.ref f2), .val (.ref g2), .val (.int pl), .val (.int pm), .val (.ref b319), .val (.ref b339), .val (.int md), .val (.int (own_bi (decide ((own_cs p0) = y2) && (decide (p2 = pl) && (decide (p3 = pm) && decide ((own_cs p1) = z2)))))), .unset] []))
              exact own_k209 _ _ X390 e390 N390
          · refine own_go (fun _ k => XS.ifYes X390.here hx rfl (pc0 := 177) (pc' := 206) rfl (hb hby at_177) rfl (Jvm.Free.XT.i0_eq_t (own_bi0 hc177)) (by decide) (by decide) k) ?_
            show own_Fin p.tables e below G (T390.setTop (mkF m 206 #[.val (.int p0), .val (.int p1), .val (.int p2), .val (.int p3), .val (.int p4), .val (.int p5), .val (.ref f1), .val (.ref g1), .val (.ref f2), .val (.ref g2), .val (.int pl), .val (.int pm), .val (.ref b319), .val (.ref b339), .val (.int md), .unset, .unset] []))
            refine own_go (fun _ k => XS.iconst X390.here hx rfl (hb hby at_206)  k) ?_
            show own_Fin p.tables e below G (T390.setTop (mkF m 207 #[.val (.int p0), .val (.int p1), .val (.int p2), .val (.int p3), .val (.int p4), .val (.int p5), .val (.ref f1), .val (.ref g1), .val (.ref f2), .val (.ref g2), .val (.int pl), .val (.int pm), .val (.ref b319), .val (.ref b339), .val (.int md), .unset, .unset] [(.int (0 : Int32))]))
            rw [show (0 : Int32) = own_bi (decide ((own_cs p0) = y2) && (decide (p2 = pl) && (decide (p3 = pm) && decide ((own_cs p1) = z2)))) by simp [own_bi, of_decide_eq_false hc177]]
            show own_Fin p.tables e below G (T390.setTop (mkF m 207 #[.val (.int p0), .val (.int p1), .val (.int p2), .val (.int p3), .val (.int p4), .val (.int p5), .val (.ref f1), .val (.ref g1), .val (.ref f2), .val (.ref g2), .val (.int pl), .val (.int pm), .val (.ref b319), .val (.ref b339), .val (.int md), .unset, .unset] [(.int (own_bi (decide ((own_cs p0) = y2) && (decide (p2 = pl) && (decide (p3 = pm) && decide ((own_cs p1) = z2))))))]))
            refine own_go (fun _ k => XS.istore X390.here hx rfl (hb hby at_207) rfl (l' := #[.val (.int p0), .val (.int p1), .val (.int p2), .val (.int p3), .val (.int p4), .val (.int p5), .val (.ref f1), .val (.ref g1), .val (.ref f2), .val (.ref g2), .val (.int pl), .val (.int pm), .val (.ref b319), .val (.ref b339), .val (.int md), .val (.int (own_bi (decide ((own_cs p0) = y2) && (decide (p2 = pl) && (decide (p3 = pm) && decide ((own_cs p1) = z2)))))), .unset]) rfl k) ?_
            show own_Fin p.tables e below G (T390.setTop (mkF m 209 #[.val (.int p0), .val (.int p1), .val (.int p2), .val (.int p3), .val (.int p4), .val (.int p5), .val (.ref f1), .val (.ref g1), .val (.ref f2), .val (.ref g2), .val (.int pl), .val (.int pm), .val (.ref b319), .val (.ref b339), .val (.int md), .val (.int (own_bi (decide ((own_cs p0) = y2) && (decide (p2 = pl) && (decide (p3 = pm) && decide ((own_cs p1) = z2)))))), .unset] []))
            exact own_k209 _ _ X390 e390 N390
        intro T locs X eT N
        refine own_go (fun _ k => XS.aload X.here hx rfl (hb hby at_209) rfl rfl k) ?_
        show own_Fin p.tables e below G (T.setTop (mkF m 211 #[.val (.int p0), .val (.int p1), .val (.int p2), .val (.int p3), .val (.int p4), .val (.int p5), .val (.ref f1), .val (.ref g1), .val (.ref f2), .val (.ref g2), .val (.int pl), .val (.int pm), .val (.ref b319), .val (.ref b339), .val (.int md), .val (.int (own_bi (decide ((own_cs p0) = y2) && (decide (p2 = pl) && (decide (p3 = pm) && decide ((own_cs p1) = z2)))))), .unset] [(.ref b319)]))
        refine own_go (fun _ k => XS.aload X.here hx rfl (hb hby at_211) rfl rfl k) ?_
        show own_Fin p.tables e below G (T.setTop (mkF m 213 #[.val (.int p0), .val (.int p1), .val (.int p2), .val (.int p3), .val (.int p4), .val (.int p5), .val (.ref f1), .val (.ref g1), .val (.ref f2), .val (.ref g2), .val (.int pl), .val (.int pm), .val (.ref b319), .val (.ref b339), .val (.int md), .val (.int (own_bi (decide ((own_cs p0) = y2) && (decide (p2 = pl) && (decide (p3 = pm) && decide ((own_cs p1) = z2)))))), .unset] [(.ref b339), (.ref b319)]))
        obtain ⟨cq393, kq393, q393a, q393b, q393c⟩ := isOf (s := (s.setVm T356.vm)) hZ356 eT E365
        obtain ⟨_, _, ⟨T393, L393, k393, n393⟩, -, X393, ⟨Lc393, hQ393, l393, y393, z393⟩, st393⟩ := X.virtualBack hx (y := (⟨"com/example/tagwright/tagwright/diag/Diagnostic", "equals", "(Ljava/lang/Object;)Z"⟩ : MethodName)) (z := (⟨"com/example/tagwright/tagwright/diag/Diagnostic", "equals", "(Ljava/lang/Object;)Z"⟩ : MethodName)) hown356 (mvT hZ356 (own_at hw 69 rfl)) (mvT hZ356 (own_at hw 70 rfl)) (notFace_of_selects (args := #[]) (mvT hZ356 (own_at hw 72 rfl))) (mvT hZ356 (own_at hw 72 rfl)) (mvT hZ356 (own_at hw 71 rfl)) (by decide) (backOf (W := 0) (own_eqD l Z a0 hw [] b319 b339 f1 p2 p3 g1 (own_cs p0) (own_cs p1) f2 pl pm g2 y2 z2 cs T356.heap n0 O367 E366 F357 F358 F359 F360 Q1 Q2 Ff356 Fp356 Fq356 Fg356 Q3 Q4 SCS hcs) hZ356 (own_at hw 73 rfl) (own_at hw 39 rfl) (by decide) (by decide)) q393a q393c (g := (mkF m 213 #[.val (.int p0), .val (.int p1), .val (.int p2), .val (.int p3), .val (.int p4), .val (.int p5), .val (.ref f1), .val (.ref g1), .val (.ref f2), .val (.ref g2), .val (.int pl), .val (.int pm), .val (.ref b319), .val (.ref b339), .val (.int md), .val (.int (own_bi (decide ((own_cs p0) = y2) && (decide (p2 = pl) && (decide (p3 = pm) && decide ((own_cs p1) = z2)))))), .unset] [(.ref b339), (.ref b319)])) rfl (by rw [hml]; rfl) (Steps.refl _) (argsL := [(.ref b339)]) (rest := []) (lenOf own_pd1 rfl) rfl (by show 2 * 0 + _ ≤ _; exact Nat.le_of_eq rfl) (hb hby at_213) (fun _ _ => ⟨rfl, eT, (by decide : 34 + 0 ≤ _), (by decide : 160 + 0 ≤ _)⟩)
        dsimp only [Pt.U, Pt.locs, Pt.cells, Pt.slots] at X393 l393 y393 z393 st393 hQ393
        subst l393 y393 z393
        obtain ⟨rfl, N393q, e393⟩ := hQ393
        have N393 := Fr.app N N393q
        refine own_go (fun _ k => st393.trans k) ?_
        show own_Fin p.tables e below G (T393.setTop (mkF m 216 #[.val (.int p0), .val (.int p1), .val (.int p2), .val (.int p3), .val (.int p4), .val (.int p5), .val (.ref f1), .val (.ref g1), .val (.ref f2), .val (.ref g2), .val (.int pl), .val (.int pm), .val (.ref b319), .val (.ref b339), .val (.int md), .val (.int (own_bi (decide ((own_cs p0) = y2) && (decide (p2 = pl) && (decide (p3 = pm) && decide ((own_cs p1) = z2)))))), .unset] [(.int (own_bi (decide (y2 = (own_cs p0)) && (decide (pl = p2) && (decide (pm = p3) && decide (z2 = (own_cs p1)))))))]))
        refine own_go (fun _ k => XS.iload X393.here hx rfl (hb hby at_216) rfl k) ?_
        show own_Fin p.tables e below G (T393.setTop (mkF m 218 #[.val (.int p0), .val (.int p1), .val (.int p2), .val (.int p3), .val (.int p4), .val (.int p5), .val (.ref f1), .val (.ref g1), .val (.ref f2), .val (.ref g2), .val (.int pl), .val (.int pm), .val (.ref b319), .val (.ref b339), .val (.int md), .val (.int (own_bi (decide ((own_cs p0) = y2) && (decide (p2 = pl) && (decide (p3 = pm) && decide ((own_cs p1) = z2)))))), .unset] [(.int (own_bi (decide ((own_cs p0) = y2) && (decide (p2 = pl) && (decide (p3 = pm) && decide ((own_cs p1) = z2)))))), (.int (own_bi (decide (y2 = (own_cs p0)) && (decide (pl = p2) && (decide (pm = p3) && decide (z2 = (own_cs p1)))))))]))
        refine own_go (fun _ k => XS.icmpNo X393.here hx rfl (hb hby at_218) rfl (Jvm.Free.XT.ii_ne_f (own_sy _ _ _ _ _ _ _ _)) k) ?_
        show own_Fin p.tables e below G (T393.setTop (mkF m 221 #[.val (.int p0), .val (.int p1), .val (.int p2), .val (.int p3), .val (.int p4), .val (.int p5), .val (.ref f1), .val (.ref g1), .val (.ref f2), .val (.ref g2), .val (.int pl), .val (.int pm), .val (.ref b319), .val (.ref b339), .val (.int md), .val (.int (own_bi (decide ((own_cs p0) = y2) && (decide (p2 = pl) && (decide (p3 = pm) && decide ((own_cs p1) = z2)))))), .unset] []))
        refine own_go (fun _ k => XS.aload X393.here hx rfl (hb hby at_221) rfl rfl k) ?_
        show own_Fin p.tables e below G (T393.setTop (mkF m 223 #[.val (.int p0), .val (.int p1), .val (.int p2), .val (.int p3), .val (.int p4), .val (.int p5), .val (.ref f1), .val (.ref g1), .val (.ref f2), .val (.ref g2), .val (.int pl), .val (.int pm), .val (.ref b319), .val (.ref b339), .val (.int md), .val (.int (own_bi (decide ((own_cs p0) = y2) && (decide (p2 = pl) && (decide (p3 = pm) && decide ((own_cs p1) = z2)))))), .unset] [(.ref b339)]))
        refine own_go (fun _ k => XS.aload X393.here hx rfl (hb hby at_223) rfl rfl k) ?_
        show own_Fin p.tables e below G (T393.setTop (mkF m 225 #[.val (.int p0), .val (.int p1), .val (.int p2), .val (.int p3), .val (.int p4), .val (.int p5), .val (.ref f1), .val (.ref g1), .val (.ref f2), .val (.ref g2), .val (.int pl), .val (.int pm), .val (.ref b319), .val (.ref b339), .val (.int md), .val (.int (own_bi (decide ((own_cs p0) = y2) && (decide (p2 = pl) && (decide (p3 = pm) && decide ((own_cs p1) = z2)))))), .unset] [(.ref b319), (.ref b339)]))
        obtain ⟨cq394, kq394, q394a, q394b, q394c⟩ := isOf (s := (s.setVm T356.vm)) hZ356 e393 E366
        obtain ⟨_, _, ⟨T394, L394, k394, n394⟩, -, X394, ⟨Lc394, hQ394, l394, y394, z394⟩, st394⟩ := X393.virtualBack hx (y := (⟨"com/example/tagwright/tagwright/diag/Diagnostic", "equals", "(Ljava/lang/Object;)Z"⟩ : MethodName)) (z := (⟨"com/example/tagwright/tagwright/diag/Diagnostic", "equals", "(Ljava/lang/Object;)Z"⟩ : MethodName)) hown356 (mvT hZ356 (own_at hw 69 rfl)) (mvT hZ356 (own_at hw 70 rfl)) (notFace_of_selects (args := #[]) (mvT hZ356 (own_at hw 72 rfl))) (mvT hZ356 (own_at hw 72 rfl)) (mvT hZ356 (own_at hw 71 rfl)) (by decide) (backOf (W := 0) (own_eqD l Z a0 hw [] b339 b319 f2 pl pm g2 y2 z2 f1 p2 p3 g1 (own_cs p0) (own_cs p1) cs T356.heap n0 O367 E365 Ff356 Fp356 Fq356 Fg356 Q3 Q4 F357 F358 F359 F360 Q1 Q2 SCS hcs) hZ356 (own_at hw 73 rfl) (own_at hw 39 rfl) (by decide) (by decide)) q394a q394c (g := (mkF m 225 #[.val (.int p0), .val (.int p1), .val (.int p2), .val (.int p3), .val (.int p4), .val (.int p5), .val (.ref f1), .val (.ref g1), .val (.ref f2), .val (.ref g2), .val (.int pl), .val (.int pm), .val (.ref b319), .val (.ref b339), .val (.int md), .val (.int (own_bi (decide ((own_cs p0) = y2) && (decide (p2 = pl) && (decide (p3 = pm) && decide ((own_cs p1) = z2)))))), .unset] [(.ref b319), (.ref b339)])) rfl (by rw [hml]; rfl) (Steps.refl _) (argsL := [(.ref b319)]) (rest := []) (lenOf own_pd1 rfl) rfl (by show 2 * 0 + _ ≤ _; exact Nat.le_of_eq rfl) (hb hby at_225) (fun _ _ => ⟨rfl, e393, (by decide : 34 + 0 ≤ _), (by decide : 160 + 0 ≤ _)⟩)
        dsimp only [Pt.U, Pt.locs, Pt.cells, Pt.slots] at X394 l394 y394 z394 st394 hQ394
        subst l394 y394 z394
        obtain ⟨rfl, N394q, e394⟩ := hQ394
        have N394 := Fr.app N393 N394q
        refine own_go (fun _ k => st394.trans k) ?_
        show own_Fin p.tables e below G (T394.setTop (mkF m 228 #[.val (.int p0), .val (.int p1), .val (.int p2), .val (.int p3), .val (.int p4), .val (.int p5), .val (.ref f1), .val (.ref g1), .val (.ref f2), .val (.ref g2), .val (.int pl), .val (.int pm), .val (.ref b319), .val (.ref b339), .val (.int md), .val (.int (own_bi (decide ((own_cs p0) = y2) && (decide (p2 = pl) && (decide (p3 = pm) && decide ((own_cs p1) = z2)))))), .unset] [(.int (own_bi (decide ((own_cs p0) = y2) && (decide (p2 = pl) && (decide (p3 = pm) && decide ((own_cs p1) = z2))))))]))
        refine own_go (fun _ k => XS.iload X394.here hx rfl (hb hby at_228) rfl k) ?_
        show own_Fin p.tables e below G (T394.setTop (mkF m 230 #[.val (.int p0), .val (.int p1), .val (.int p2), .val (.int p3), .val (.int p4), .val (.int p5), .val (.ref f1), .val (.ref g1), .val (.ref f2), .val (.ref g2), .val (.int pl), .val (.int pm), .val (.ref b319), .val (.ref b339), .val (.int md), .val (.int (own_bi (decide ((own_cs p0) = y2) && (decide (p2 = pl) && (decide (p3 = pm) && decide ((own_cs p1) = z2)))))), .unset] [(.int (own_bi (decide ((own_cs p0) = y2) && (decide (p2 = pl) && (decide (p3 = pm) && decide ((own_cs p1) = z2)))))), (.int (own_bi (decide ((own_cs p0) = y2) && (decide (p2 = pl) && (decide (p3 = pm) && decide ((own_cs p1) = z2))))))]))
        refine own_go (fun _ k => XS.icmpNo X394.here hx rfl (hb hby at_230) rfl (Jvm.Free.XT.ii_ne_f rfl) k) ?_
        show own_Fin p.tables e below G (T394.setTop (mkF m 233 #[.val (.int p0), .val (.int p1), .val (.int p2), .val (.int p3), .val (.int p4), .val (.int p5), .val (.ref f1), .val (.ref g1), .val (.ref f2), .val (.ref g2), .val (.int pl), .val (.int pm), .val (.ref b319), .val (.ref b339), .val (.int md), .val (.int (own_bi (decide ((own_cs p0) = y2) && (decide (p2 = pl) && (decide (p3 = pm) && decide ((own_cs p1) = z2)))))), .unset] []))
        refine own_go (fun _ k => XS.iconst X394.here hx rfl (hb hby at_233)  k) ?_
        show own_Fin p.tables e below G (T394.setTop (mkF m 234 #[.val (.int p0), .val (.int p1), .val (.int p2), .val (.int p3), .val (.int p4), .val (.int p5), .val (.ref f1), .val (.ref g1), .val (.ref f2), .val (.ref g2), .val (.int pl), .val (.int pm), .val (.ref b319), .val (.ref b339), .val (.int md), .val (.int (own_bi (decide ((own_cs p0) = y2) && (decide (p2 = pl) && (decide (p3 = pm) && decide ((own_cs p1) = z2)))))), .unset] [(.int (1 : Int32))]))
        refine own_go (fun _ k => XS.goto X394.here hx rfl (pc0 := 234) (pc' := 238) rfl (hb hby at_234) (by decide) (by decide) k) ?_
        show own_Fin p.tables e below G (T394.setTop (mkF m 238 #[.val (.int p0), .val (.int p1), .val (.int p2), .val (.int p3), .val (.int p4), .val (.int p5), .val (.ref f1), .val (.ref g1), .val (.ref f2), .val (.ref g2), .val (.int pl), .val (.int pm), .val (.ref b319), .val (.ref b339), .val (.int md), .val (.int (own_bi (decide ((own_cs p0) = y2) && (decide (p2 = pl) && (decide (p3 = pm) && decide ((own_cs p1) = z2)))))), .unset] [(.int (1 : Int32))]))
        refine own_go (fun _ k => XS.istore X394.here hx rfl (hb hby at_238) rfl (l' := #[.val (.int p0), .val (.int p1), .val (.int p2), .val (.int p3), .val (.int p4), .val (.int p5), .val (.ref f1), .val (.ref g1), .val (.ref f2), .val (.ref g2), .val (.int pl), .val (.int pm), .val (.ref b319), .val (.ref b339), .val (.int md), .val (.int (own_bi (decide ((own_cs p0) = y2) && (decide (p2 = pl) && (decide (p3 = pm) && decide ((own_cs p1) = z2)))))), .val (.int (1 : Int32))]) rfl k) ?_
        show own_Fin p.tables e below G (T394.setTop (mkF m 240 #[.val (.int p0), .val (.int p1), .val (.int p2), .val (.int p3), .val (.int p4), .val (.int p5), .val (.ref f1), .val (.ref g1), .val (.ref f2), .val (.ref g2), .val (.int pl), .val (.int pm), .val (.ref b319), .val (.ref b339), .val (.int md), .val (.int (own_bi (decide ((own_cs p0) = y2) && (decide (p2 = pl) && (decide (p3 = pm) && decide ((own_cs p1) = z2)))))), .val (.int (1 : Int32))] []))
        refine own_go (fun _ k => XS.iload X394.here hx rfl (hb hby at_240) rfl k) ?_
        show own_Fin p.tables e below G (T394.setTop (mkF m 242 #[.val (.int p0), .val (.int p1), .val (.int p2), .val (.int p3), .val (.int p4), .val (.int p5), .val (.ref f1), .val (.ref g1), .val (.ref f2), .val (.ref g2), .val (.int pl), .val (.int pm), .val (.ref b319), .val (.ref b339), .val (.int md), .val (.int (own_bi (decide ((own_cs p0) = y2) && (decide (p2 = pl) && (decide (p3 = pm) && decide ((own_cs p1) = z2)))))), .val (.int (1 : Int32))] [(.int md)]))
        refine own_go (fun _ k => XS.iconst X394.here hx rfl (hb hby at_242)  k) ?_
        show own_Fin p.tables e below G (T394.setTop (mkF m 243 #[.val (.int p0), .val (.int p1), .val (.int p2), .val (.int p3), .val (.int p4), .val (.int p5), .val (.ref f1), .val (.ref g1), .val (.ref f2), .val (.ref g2), .val (.int pl), .val (.int pm), .val (.ref b319), .val (.ref b339), .val (.int md), .val (.int (own_bi (decide ((own_cs p0) = y2) && (decide (p2 = pl) && (decide (p3 = pm) && decide ((own_cs p1) = z2)))))), .val (.int (1 : Int32))] [(.int (3 : Int32)), (.int md)]))
        by_cases hm3 : md = (3 : Int32)
        · refine own_go (fun _ k => XS.icmpNo X394.here hx rfl (hb hby at_243) rfl (Jvm.Free.XT.ii_ne_f hm3) k) ?_
          show own_Fin p.tables e below G (T394.setTop (mkF m 246 #[.val (.int p0), .val (.int p1), .val (.int p2), .val (.int p3), .val (.int p4), .val (.int p5), .val (.ref f1), .val (.ref g1), .val (.ref f2), .val (.ref g2), .val (.int pl), .val (.int pm), .val (.ref b319), .val (.ref b339), .val (.int md), .val (.int (own_bi (decide ((own_cs p0) = y2) && (decide (p2 = pl) && (decide (p3 = pm) && decide ((own_cs p1) = z2)))))), .val (.int (1 : Int32))] []))
          refine own_go (fun _ k => XS.iload X394.here hx rfl (hb hby at_246) rfl k) ?_
          show own_Fin p.tables e below G (T394.setTop (mkF m 248 #[.val (.int p0), .val (.int p1), .val (.int p2), .val (.int p3), .val (.int p4), .val (.int p5), .val (.ref f1), .val (.ref g1), .val (.ref f2), .val (.ref g2), .val (.int pl), .val (.int pm), .val (.ref b319), .val (.ref b339), .val (.int md), .val (.int (own_bi (decide ((own_cs p0) = y2) && (decide (p2 = pl) && (decide (p3 = pm) && decide ((own_cs p1) = z2)))))), .val (.int (1 : Int32))] [(.int (1 : Int32))]))
          refine own_go (fun _ k => XS.ifNo X394.here hx rfl (hb hby at_248) rfl (Jvm.Free.XT.i0_eq_f (by decide)) k) ?_
          show own_Fin p.tables e below G (T394.setTop (mkF m 251 #[.val (.int p0), .val (.int p1), .val (.int p2), .val (.int p3), .val (.int p4), .val (.int p5), .val (.ref f1), .val (.ref g1), .val (.ref f2), .val (.ref g2), .val (.int pl), .val (.int pm), .val (.ref b319), .val (.ref b339), .val (.int md), .val (.int (own_bi (decide ((own_cs p0) = y2) && (decide (p2 = pl) && (decide (p3 = pm) && decide ((own_cs p1) = z2)))))), .val (.int (1 : Int32))] []))
          refine own_go (fun _ k => XS.aload X394.here hx rfl (hb hby at_251) rfl rfl k) ?_
          show own_Fin p.tables e below G (T394.setTop (mkF m 253 #[.val (.int p0), .val (.int p1), .val (.int p2), .val (.int p3), .val (.int p4), .val (.int p5), .val (.ref f1), .val (.ref g1), .val (.ref f2), .val (.ref g2), .val (.int pl), .val (.int pm), .val (.ref b319), .val (.ref b339), .val (.int md), .val (.int (own_bi (decide ((own_cs p0) = y2) && (decide (p2 = pl) && (decide (p3 = pm) && decide ((own_cs p1) = z2)))))), .val (.int (1 : Int32))] [(.ref b319)]))
          refine own_go (fun _ k => XS.aload X394.here hx rfl (hb hby at_253) rfl rfl k) ?_
          show own_Fin p.tables e below G (T394.setTop (mkF m 255 #[.val (.int p0), .val (.int p1), .val (.int p2), .val (.int p3), .val (.int p4), .val (.int p5), .val (.ref f1), .val (.ref g1), .val (.ref f2), .val (.ref g2), .val (.int pl), .val (.int pm), .val (.ref b319), .val (.ref b339), .val (.int md), .val (.int (own_bi (decide ((own_cs p0) = y2) && (decide (p2 = pl) && (decide (p3 = pm) && decide ((own_cs p1) = z2)))))), .val (.int (1 : Int32))] [(.ref b319), (.ref b319)]))
          obtain ⟨cq395, kq395, q395a, q395b, q395c⟩ := isOf (s := (s.setVm T356.vm)) hZ356 e394 E365
          obtain ⟨_, _, ⟨T395, L395, k395, n395⟩, -, X395, ⟨Lc395, hQ395, l395, y395, z395⟩, st395⟩ := X394.virtualBack hx (y := (⟨"com/example/tagwright/tagwright/diag/Diagnostic", "equals", "(Ljava/lang/Object;)Z"⟩ : MethodName)) (z := (⟨"com/example/tagwright/tagwright/diag/Diagnostic", "equals", "(Ljava/lang/Object;)Z"⟩ : MethodName)) hown356 (mvT hZ356 (own_at hw 69 rfl)) (mvT hZ356 (own_at hw 70 rfl)) (notFace_of_selects (args := #[]) (mvT hZ356 (own_at hw 72 rfl))) (mvT hZ356 (own_at hw 72 rfl)) (mvT hZ356 (own_at hw 71 rfl)) (by decide) (backOf (W := 0) (own_eqD l Z a0 hw [] b319 b319 f1 p2 p3 g1 (own_cs p0) (own_cs p1) f1 p2 p3 g1 (own_cs p0) (own_cs p1) cs T356.heap n0 O367 E365 F357 F358 F359 F360 Q1 Q2 F357 F358 F359 F360 Q1 Q2 SCS hcs) hZ356 (own_at hw 73 rfl) (own_at hw 39 rfl) (by decide) (by decide)) q395a q395c (g := (mkF m 255 #[.val (.int p0), .val (.int p1), .val (.int p2), .val (.int p3), .val (.int p4), .val (.int p5), .val (.ref f1), .val (.ref g1), .val (.ref f2), .val (.ref g2), .val (.int pl), .val (.int pm), .val (.ref b319), .val (.ref b339), .val (.int md), .val (.int (own_bi (decide ((own_cs p0) = y2) && (decide (p2 = pl) && (decide (p3 = pm) && decide ((own_cs p1) = z2)))))), .val (.int (1 : Int32))] [(.ref b319), (.ref b319)])) rfl (by rw [hml]; rfl) (Steps.refl _) (argsL := [(.ref b319)]) (rest := []) (lenOf own_pd1 rfl) rfl (by show 2 * 0 + _ ≤ _; exact Nat.le_of_eq rfl) (hb hby at_255) (fun _ _ => ⟨rfl, e394, (by decide : 34 + 0 ≤ _), (by decide : 160 + 0 ≤ _)⟩)
          dsimp only [Pt.U, Pt.locs, Pt.cells, Pt.slots] at X395 l395 y395 z395 st395 hQ395
          subst l395 y395 z395
          obtain ⟨rfl, N395q, e395⟩ := hQ395
          have N395 := Fr.app N394 N395q
          refine own_go (fun _ k => st395.trans k) ?_
          show own_Fin p.tables e below G (T395.setTop (mkF m 258 #[.val (.int p0), .val (.int p1), .val (.int p2), .val (.int p3), .val (.int p4), .val (.int p5), .val (.ref f1), .val (.ref g1), .val (.ref f2), .val (.ref g2), .val (.int pl), .val (.int pm), .val (.ref b319), .val (.ref b339), .val (.int md), .val (.int (own_bi (decide ((own_cs p0) = y2) && (decide (p2 = pl) && (decide (p3 = pm) && decide ((own_cs p1) = z2)))))), .val (.int (1 : Int32))] [(.int (own_bi (decide ((own_cs p0) = (own_cs p0)) && (decide (p2 = p2) && (decide (p3 = p3) && decide ((own_cs p1) = (own_cs p1)))))))]))
          rw [own_tt]
          show own_Fin p.tables e below G (T395.setTop (mkF m 258 #[.val (.int p0), .val (.int p1), .val (.int p2), .val (.int p3), .val (.int p4), .val (.int p5), .val (.ref f1), .val (.ref g1), .val (.ref f2), .val (.ref g2), .val (.int pl), .val (.int pm), .val (.ref b319), .val (.ref b339), .val (.int md), .val (.int (own_bi (decide ((own_cs p0) = y2) && (decide (p2 = pl) && (decide (p3 = pm) && decide ((own_cs p1) = z2)))))), .val (.int (1 : Int32))] [(.int (1 : Int32))]))
          refine own_go (fun _ k => XS.ifNo X395.here hx rfl (hb hby at_258) rfl (Jvm.Free.XT.i0_eq_f (by decide)) k) ?_
          show own_Fin p.tables e below G (T395.setTop (mkF m 261 #[.val (.int p0), .val (.int p1), .val (.int p2), .val (.int p3), .val (.int p4), .val (.int p5), .val (.ref f1), .val (.ref g1), .val (.ref f2), .val (.ref g2), .val (.int pl), .val (.int pm), .val (.ref b319), .val (.ref b339), .val (.int md), .val (.int (own_bi (decide ((own_cs p0) = y2) && (decide (p2 = pl) && (decide (p3 = pm) && decide ((own_cs p1) = z2)))))), .val (.int (1 : Int32))] []))
          refine own_go (fun _ k => XS.iconst X395.here hx rfl (hb hby at_261)  k) ?_
          show own_Fin p.tables e below G (T395.setTop (mkF m 262 #[.val (.int p0), .val (.int p1), .val (.int p2), .val (.int p3), .val (.int p4), .val (.int p5), .val (.ref f1), .val (.ref g1), .val (.ref f2), .val (.ref g2), .val (.int pl), .val (.int pm), .val (.ref b319), .val (.ref b339), .val (.int md), .val (.int (own_bi (decide ((own_cs p0) = y2) && (decide (p2 = pl) && (decide (p3 = pm) && decide ((own_cs p1) = z2)))))), .val (.int (1 : Int32))] [(.int (1 : Int32))]))
          refine own_go (fun _ k => XS.goto X395.here hx rfl (pc0 := 262) (pc' := 266) rfl (hb hby at_262) (by decide) (by decide) k) ?_
          show own_Fin p.tables e below G (T395.setTop (mkF m 266 #[.val (.int p0), .val (.int p1), .val (.int p2), .val (.int p3), .val (.int p4), .val (.int p5), .val (.ref f1), .val (.ref g1), .val (.ref f2), .val (.ref g2), .val (.int pl), .val (.int pm), .val (.ref b319), .val (.ref b339), .val (.int md), .val (.int (own_bi (decide ((own_cs p0) = y2) && (decide (p2 = pl) && (decide (p3 = pm) && decide ((own_cs p1) = z2)))))), .val (.int (1 : Int32))] [(.int (1 : Int32))]))
          subst hG
          exact own_rvW (s := s) X395 SS356 (own_hk e395 hkk356) hx (t := .boolean) Bd.returns rfl (Or.inl ⟨rfl, Or.inr (Or.inl rfl), _, rfl⟩) (hb hby at_266) Bd.notSynchronized (by decide) (by decide) ⟨rfl, N395⟩
        · refine own_go (fun _ k => XS.icmpYes X394.here hx rfl (pc0 := 243) (pc' := 267) rfl (hb hby at_243) rfl (Jvm.Free.XT.ii_ne_t hm3) (by decide) (by decide) k) ?_
          show own_Fin p.tables e below G (T394.setTop (mkF m 267 #[.val (.int p0), .val (.int p1), .val (.int p2), .val (.int p3), .val (.int p4), .val (.int p5), .val (.ref f1), .val (.ref g1), .val (.ref f2), .val (.ref g2), .val (.int pl), .val (.int pm), .val (.ref b319), .val (.ref b339), .val (.int md), .val (.int (own_bi (decide ((own_cs p0) = y2) && (decide (p2 = pl) && (decide (p3 = pm) && decide ((own_cs p1) = z2)))))), .val (.int (1 : Int32))] []))
          refine own_go (fun _ k => XS.iload X394.here hx rfl (hb hby at_267) rfl k) ?_
          show own_Fin p.tables e below G (T394.setTop (mkF m 269 #[.val (.int p0), .val (.int p1), .val (.int p2), .val (.int p3), .val (.int p4), .val (.int p5), .val (.ref f1), .val (.ref g1), .val (.ref f2), .val (.ref g2), .val (.int pl), .val (.int pm), .val (.ref b319), .val (.ref b339), .val (.int md), .val (.int (own_bi (decide ((own_cs p0) = y2) && (decide (p2 = pl) && (decide (p3 = pm) && decide ((own_cs p1) = z2)))))), .val (.int (1 : Int32))] [(.int (1 : Int32))]))
          subst hG
          exact own_rvW (s := s) X394 SS356 (own_hk e394 hkk356) hx (t := .boolean) Bd.returns rfl (Or.inl ⟨rfl, Or.inr (Or.inl rfl), _, rfl⟩) (hb hby at_269) Bd.notSynchronized (by decide) (by decide) ⟨rfl, N394⟩
  have own_k31 : ∀ (T : State) (vm : Vm) (kk : Nat) (locs : List Loc) (h : Heap) (X : Stand p l e room_1 (s.setVm vm) m #[(.int p0), (.int p1), (.int p2), (.int p3), (.int p4), (.int p5)] below meth c T locs 18 36) (hZp : Z.Warmed39 vm) (hownp : vm.findClass "com/example/tagwright/tagwright/diag/DiagnosticEqualsPinLaw" = some m.cls) (SSp : s.Since vm kk) (hkp : kk ≤ h.size) (eT : T.heap = h) (N : Fr n0 locs) (O : Old Z n0 h) (CHp : CHr Z EL s.vm h0 vm h) (f1 : Addr) (g1 : Addr) (f2 : Addr) (y2 : List Int32) (S1 : own_S Z h f1 (own_cs p0)) (S2 : own_S Z h g1 (own_cs p1)) (S3 : own_S Z h f2 y2), own_Fin p.tables e below G (T.setTop (mkF m 31 #[.val (.int p0), .val (.int p1), .val (.int p2), .val (.int p3), .val (.int p4), .val (.int p5), .val (.ref f1), .val (.ref g1), .unset, .unset, .unset, .unset, .unset, .unset, .unset, .unset, .unset] [(.ref f2)])) := by
    intro T vm kk locs h X hZp hownp SSp hkp eT N O CHp f1 g1 f2 y2 S1 S2 S3
    refine own_go (fun _ k => XS.astore X.here hx rfl (hb hby at_31) rfl rfl (l' := #[.val (.int p0), .val (.int p1), .val (.int p2), .val (.int p3), .val (.int p4), .val (.int p5), .val (.ref f1), .val (.ref g1), .val (.ref f2), .unset, .unset, .unset, .unset, .unset, .unset, .unset, .unset]) rfl k) ?_
    show own_Fin p.tables e below G (T.setTop (mkF m 33 #[.val (.int p0), .val (.int p1), .val (.int p2), .val (.int p3), .val (.int p4), .val (.int p5), .val (.ref f1), .val (.ref g1), .val (.ref f2), .unset, .unset, .unset, .unset, .unset, .unset, .unset, .unset] []))
    refine own_go (fun _ k => XS.iload X.here hx rfl (hb hby at_33) rfl k) ?_
    show own_Fin p.tables e below G (T.setTop (mkF m 35 #[.val (.int p0), .val (.int p1), .val (.int p2), .val (.int p3), .val (.int p4), .val (.int p5), .val (.ref f1), .val (.ref g1), .val (.ref f2), .unset, .unset, .unset, .unset, .unset, .unset, .unset, .unset] [(.int p4)]))
    refine own_go (fun _ k => XS.iconst X.here hx rfl (hb hby at_35)  k) ?_
    show own_Fin p.tables e below G (T.setTop (mkF m 36 #[.val (.int p0), .val (.int p1), .val (.int p2), .val (.int p3), .val (.int p4), .val (.int p5), .val (.ref f1), .val (.ref g1), .val (.ref f2), .unset, .unset, .unset, .unset, .unset, .unset, .unset, .unset] [(.int (2 : Int32)), (.int p4)]))
    refine own_go (fun _ k => XS.iand X.here hx rfl (hb hby at_36) rfl k) ?_
    show own_Fin p.tables e below G (T.setTop (mkF m 37 #[.val (.int p0), .val (.int p1), .val (.int p2), .val (.int p3), .val (.int p4), .val (.int p5), .val (.ref f1), .val (.ref g1), .val (.ref f2), .unset, .unset, .unset, .unset, .unset, .unset, .unset, .unset] [(.int (p4 &&& (2 : Int32)))]))
    by_cases hc37 : (p4 &&& (2 : Int32)) = 0
    · refine own_go (fun _ k => XS.ifYes X.here hx rfl (pc0 := 37) (pc' := 48) rfl (hb hby at_37) rfl (Jvm.Free.XT.i0_eq_t hc37) (by decide) (by decide) k) ?_
      show own_Fin p.tables e below G (T.setTop (mkF m 48 #[.val (.int p0), .val (.int p1), .val (.int p2), .val (.int p3), .val (.int p4), .val (.int p5), .val (.ref f1), .val (.ref g1), .val (.ref f2), .unset, .unset, .unset, .unset, .unset, .unset, .unset, .unset] []))
      refine own_go (fun _ k => XS.iloadN X.here hx rfl (hb hby at_48) rfl k) ?_
      show own_Fin p.tables e below G (T.setTop (mkF m 49 #[.val (.int p0), .val (.int p1), .val (.int p2), .val (.int p3), .val (.int p4), .val (.int p5), .val (.ref f1), .val (.ref g1), .val (.ref f2), .unset, .unset, .unset, .unset, .unset, .unset, .unset, .unset] [(.int p1)]))
      obtain ⟨_, _, ⟨T396, L396, k396, n396⟩, -, X396, S396, gs396, ⟨Lc396, hQ396, l396, y396, z396, R396⟩, st396⟩ := callSS X hx (y := (⟨"com/example/tagwright/tagwright/diag/DiagnosticEqualsPinLaw", "mk", "(I)Ljava/lang/String;"⟩ : MethodName)) hownp (mvT hZp (own_at hw 0 rfl)) (mvT hZp (own_at hw 1 rfl)) (mvT hZp (own_at hw 2 rfl)) (mvT hZp (own_at hw 3 rfl)) (by decide) (backOfSH (W := 0) (own_mk l Z a0 hw [] p1 cs h n0 O SCS hcs) hZp (own_at hw 3 rfl) (own_at hw 2 rfl) (by decide) (by decide) hEL CHp.1) (g := (mkF m 49 #[.val (.int p0), .val (.int p1), .val (.int p2), .val (.int p3), .val (.int p4), .val (.int p5), .val (.ref f1), .val (.ref g1), .val (.ref f2), .unset, .unset, .unset, .unset, .unset, .unset, .unset, .unset] [(.int p1)])) rfl (by rw [hml]; rfl) (argsL := [(.int p1)]) (rest := []) (lenOf own_pd8 rfl) rfl (by show 2 * 0 + _ ≤ _; exact Nat.le_of_eq rfl) (hb hby at_49) (fun _ _ => ⟨rfl, eT, (by decide : 18 + 6 ≤ _), (by decide : 36 + 12 ≤ _)⟩)
      dsimp only [Pt.U, Pt.locs, Pt.cells, Pt.slots] at X396 l396 y396 z396 st396 hQ396 S396 gs396 R396
      subst l396 y396 z396
      have SS396 := foldS SSp (own_hk eT hkp) S396 gs396
      have hZ396 := own_rebZ hZp S396
      have hown396 := own_rebO hownp S396
      have hkk396 : T396.heap.size ≤ T396.heap.size := Nat.le_refl _
      have X396 : Stand p l e room_1 (s.setVm T396.vm) m #[(.int p0), (.int p1), (.int p2), (.int p3), (.int p4), (.int p5)] below meth c T396 _ _ _ := X396
      have CH397 := CHp.trans R396
      obtain ⟨b396, rfl, N396q, K396, S396⟩ := hQ396
      have N396 := Fr.app N N396q
      have P398 := S1.keep0 K396
      have P399 := S2.keep0 K396
      have P400 := S3.keep0 K396
      have O401 := O.keep K396 all0
      refine own_go (fun _ k => st396.trans k) ?_
      show own_Fin p.tables e below G (T396.setTop (mkF m 52 #[.val (.int p0), .val (.int p1), .val (.int p2), .val (.int p3), .val (.int p4), .val (.int p5), .val (.ref f1), .val (.ref g1), .val (.ref f2), .unset, .unset, .unset, .unset, .unset, .unset, .unset, .unset] [(.ref b396)]))
      exact own_k52 _ _ _ _ _ (own_mono X396 (by decide) (by decide)) hZ396 hown396 SS396 hkk396 (rfl : T396.heap = T396.heap) N396 O401 f1 g1 f2 y2 b396 (own_cs p1) P398 P399 P400 S396
    · refine own_go (fun _ k => XS.ifNo X.here hx rfl (hb hby at_37) rfl (Jvm.Free.XT.i0_eq_f hc37) k) ?_
      show own_Fin p.tables e below G (T.setTop (mkF m 40 #[.val (.int p0), .val (.int p1), .val (.int p2), .val (.int p3), .val (.int p4), .val (.int p5), .val (.ref f1), .val (.ref g1), .val (.ref f2), .unset, .unset, .unset, .unset, .unset, .unset, .unset, .unset] []))
      refine own_go (fun _ k => XS.iload X.here hx rfl (hb hby at_40) rfl k) ?_
      show own_Fin p.tables e below G (T.setTop (mkF m 42 #[.val (.int p0), .val (.int p1), .val (.int p2), .val (.int p3), .val (.int p4), .val (.int p5), .val (.ref f1), .val (.ref g1), .val (.ref f2), .unset, .unset, .unset, .unset, .unset, .unset, .unset, .unset] [(.int p5)]))
      obtain ⟨_, _, ⟨T402, L402, k402, n402⟩, -, X402, S402, gs402, ⟨Lc402, hQ402, l402, y402, z402, R402⟩, st402⟩ := callSS X hx (y := (⟨"com/example/tagwright/tagwright/diag/DiagnosticEqualsPinLaw", "mk", "(I)Ljava/lang/String;"⟩ : MethodName)) hownp (mvT hZp (own_at hw 0 rfl)) (mvT hZp (own_at hw 1 rfl)) (mvT hZp (own_at hw 2 rfl)) (mvT hZp (own_at hw 3 rfl)) (by decide) (backOfSH (W := 0) (own_mk l Z a0 hw [] p5 cs h n0 O SCS hcs) hZp (own_at hw 3 rfl) (own_at hw 2 rfl) (by decide) (by decide) hEL CHp.1) (g := (mkF m 42 #[.val (.int p0), .val (.int p1), .val (.int p2), .val (.int p3), .val (.int p4), .val (.int p5), .val (.ref f1), .val (.ref g1), .val (.ref f2), .unset, .unset, .unset, .unset, .unset, .unset, .unset, .unset] [(.int p5)])) rfl (by rw [hml]; rfl) (argsL := [(.int p5)]) (rest := []) (lenOf own_pd8 rfl) rfl (by show 2 * 0 + _ ≤ _; exact Nat.le_of_eq rfl) (hb hby at_42) (fun _ _ => ⟨rfl, eT, (by decide : 18 + 6 ≤ _), (by decide : 36 + 12 ≤ _)⟩)
      dsimp only [Pt.U, Pt.locs, Pt.cells, Pt.slots] at X402 l402 y402 z402 st402 hQ402 S402 gs402 R402
      subst l402 y402 z402
      have SS402 := foldS SSp (own_hk eT hkp) S402 gs402
      have hZ402 := own_rebZ hZp S402
      have hown402 := own_rebO hownp S402
      have hkk402 : T402.heap.size ≤ T402.heap.size := Nat.le_refl _
      have X402 : Stand p l e room_1 (s.setVm T402.vm) m #[(.int p0), (.int p1), (.int p2), (.int p3), (.int p4), (.int p5)] below meth c T402 _ _ _ := X402
      have CH403 := CHp.trans R402
      obtain ⟨b402, rfl, N402q, K402, S402⟩ := hQ402
      have N402 := Fr.app N N402q
      have P404 := S1.keep0 K402
      have P405 := S2.keep0 K402
      have P406 := S3.keep0 K402
      have O407 := O.keep K402 all0
      refine own_go (fun _ k => st402.trans k) ?_
      show own_Fin p.tables e below G (T402.setTop (mkF m 45 #[.val (.int p0), .val (.int p1), .val (.int p2), .val (.int p3), .val (.int p4), .val (.int p5), .val (.ref f1), .val (.ref g1), .val (.ref f2), .unset, .unset, .unset, .unset, .unset, .unset, .unset, .unset] [(.ref b402)]))
      refine own_go (fun _ k => XS.goto X402.here hx rfl (pc0 := 45) (pc' := 52) rfl (hb hby at_45) (by decide) (by decide) k) ?_
      show own_Fin p.tables e below G (T402.setTop (mkF m 52 #[.val (.int p0), .val (.int p1), .val (.int p2), .val (.int p3), .val (.int p4), .val (.int p5), .val (.ref f1), .val (.ref g1), .val (.ref f2), .unset, .unset, .unset, .unset, .unset, .unset, .unset, .unset] [(.ref b402)]))
      exact own_k52 _ _ _ _ _ (own_mono X402 (by decide) (by decide)) hZ402 hown402 SS402 hkk402 (rfl : T402.heap = T402.heap) N402 O407 f1 g1 f2 y2 b402 (own_cs p5) P404 P405 P406 S402
  show own_Fin p.tables e below G (s₁.setTop (mkF m 0 #[.val (.int p0), .val (.int p1), .val (.int p2), .val (.int p3), .val (.int p4), .val (.int p5), .unset, .unset, .unset, .unset, .unset, .unset, .unset, .unset, .unset, .unset, .unset] []))
  refine own_go (fun _ k => XS.iloadN X0.here hx rfl (hb hby at_0) rfl k) ?_
  show own_Fin p.tables e below G (s₁.setTop (mkF m 1 #[.val (.int p0), .val (.int p1), .val (.int p2), .val (.int p3), .val (.int p4), .val (.int p5), .unset, .unset, .unset, .unset, .unset, .unset, .unset, .unset, .unset, .unset, .unset] [(.int p0)]))
  obtain ⟨_, _, ⟨T408, L408, k408, n408⟩, -, X408, S408, gs408, ⟨Lc408, hQ408, l408, y408, z408, R408⟩, st408⟩ := callSS X0 hx (y := (⟨"com/example/tagwright/tagwright/diag/DiagnosticEqualsPinLaw", "mk", "(I)Ljava/lang/String;"⟩ : MethodName)) hown (mvT hZ (own_at hw 0 rfl)) (mvT hZ (own_at hw 1 rfl)) (mvT hZ (own_at hw 2 rfl)) (mvT hZ (own_at hw 3 rfl)) (by decide) (backOfSH (W := 0) (own_mk l Z a0 hw [] p0 cs h0 n0 O0 SCS hcs) hZ (own_at hw 3 rfl) (own_at hw 2 rfl) (by decide) (by decide) hEL CH0.1) (g := (mkF m 1 #[.val (.int p0), .val (.int p1), .val (.int p2), .val (.int p3), .val (.int p4), .val (.int p5), .unset, .unset, .unset, .unset, .unset, .unset, .unset, .unset, .unset, .unset, .unset] [(.int p0)])) rfl (by rw [hml]; rfl) (argsL := [(.int p0)]) (rest := []) (lenOf own_pd8 rfl) rfl (by show 2 * 0 + _ ≤ _; exact Nat.le_of_eq rfl) (hb hby at_1) (fun _ _ => ⟨rfl, e0, (by decide : 0 + 6 ≤ _), (by decide : 0 + 12 ≤ _)⟩)
  dsimp only [Pt.U, Pt.locs, Pt.cells, Pt.slots] at X408 l408 y408 z408 st408 hQ408 S408 gs408 R408
  subst l408 y408 z408
  have SS408 := foldS SS0 (own_hk e0 hk0) S408 gs408
  have hZ408 := own_rebZ hZ S408
  have hown408 := own_rebO hown S408
  have hkk408 : T408.heap.size ≤ T408.heap.size := Nat.le_refl _
  have X408 : Stand p l e room_1 (s.setVm T408.vm) m #[(.int p0), (.int p1), (.int p2), (.int p3), (.int p4), (.int p5)] below meth c T408 _ _ _ := X408
  have CH409 := CH0.trans R408
  obtain ⟨b408, rfl, N408q, K408, S408⟩ := hQ408
  have N408 := Fr.app N0 N408q
  have O410 := O0.keep K408 all0
  refine own_go (fun _ k => st408.trans k) ?_
  show own_Fin p.tables e below G (T408.setTop (mkF m 4 #[.val (.int p0), .val (.int p1), .val (.int p2), .val (.int p3), .val (.int p4), .val (.int p5), .unset, .unset, .unset, .unset, .unset, .unset, .unset, .unset, .unset, .unset, .unset] [(.ref b408)]))
  refine own_go (fun _ k => XS.astore X408.here hx rfl (hb hby at_4) rfl rfl (l' := #[.val (.int p0), .val (.int p1), .val (.int p2), .val (.int p3), .val (.int p4), .val (.int p5), .val (.ref b408), .unset, .unset, .unset, .unset, .unset, .unset, .unset, .unset, .unset, .unset]) rfl k) ?_
  show own_Fin p.tables e below G (T408.setTop (mkF m 6 #[.val (.int p0), .val (.int p1), .val (.int p2), .val (.int p3), .val (.int p4), .val (.int p5), .val (.ref b408), .unset, .unset, .unset, .unset, .unset, .unset, .unset, .unset, .unset, .unset] []))
  refine own_go (fun _ k => XS.iloadN X408.here hx rfl (hb hby at_6) rfl k) ?_
  show own_Fin p.tables e below G (T408.setTop (mkF m 7 #[.val (.int p0), .val (.int p1), .val (.int p2), .val (.int p3), .val (.int p4), .val (.int p5), .val (.ref b408), .unset, .unset, .unset, .unset, .unset, .unset, .unset, .unset, .unset, .unset] [(.int p1)]))
  obtain ⟨_, _, ⟨T411, L411, k411, n411⟩, -, X411, S411, gs411, ⟨Lc411, hQ411, l411, y411, z411, R411⟩, st411⟩ := callSS X408 hx (y := (⟨"com/example/tagwright/tagwright/diag/DiagnosticEqualsPinLaw", "mk", "(I)Ljava/lang/String;"⟩ : MethodName)) hown408 (mvT hZ408 (own_at hw 0 rfl)) (mvT hZ408 (own_at hw 1 rfl)) (mvT hZ408 (own_at hw 2 rfl)) (mvT hZ408 (own_at hw 3 rfl)) (by decide) (backOfSH (W := 0) (own_mk l Z a0 hw [] p1 cs T408.heap n0 O410 SCS hcs) hZ408 (own_at hw 3 rfl) (own_at hw 2 rfl) (by decide) (by decide) hEL CH409.1) (g := (mkF m 7 #[.val (.int p0), .val (.int p1), .val (.int p2), .val (.int p3), .val (.int p4), .val (.int p5), .val (.ref b408), .unset, .unset, .unset, .unset, .unset, .unset, .unset, .unset, .unset, .unset] [(.int p1)])) rfl (by rw [hml]; rfl) (argsL := [(.int p1)]) (rest := []) (lenOf own_pd8 rfl) rfl (by show 2 * 0 + _ ≤ _; exact Nat.le_of_eq rfl) (hb hby at_7) (fun _ _ => ⟨rfl, (rfl : T408.heap = T408.heap), (by decide : 6 + 6 ≤ _), (by decide : 12 + 12 ≤ _)⟩)
  dsimp only [Pt.U, Pt.locs, Pt.cells, Pt.slots] at X411 l411 y411 z411 st411 hQ411 S411 gs411 R411
  subst l411 y411 z411
  have SS411 := foldS SS408 (own_hk (rfl : T408.heap = T408.heap) hkk408) S411 gs411
  have hZ411 := own_rebZ hZ408 S411
  have hown411 := own_rebO hown408 S411
  have hkk411 : T411.heap.size ≤ T411.heap.size := Nat.le_refl _
  have X411 : Stand p l e room_1 (s.setVm T411.vm) m #[(.int p0), (.int p1), (.int p2), (.int p3), (.int p4), (.int p5)] below meth c T411 _ _ _ := X411
  have CH412 := CH409.trans R411
  obtain ⟨b411, rfl, N411q, K411, S411⟩ := hQ411
  have N411 := Fr.app N408 N411q
  have P413 := S408.keep0 K411
  have O414 := O410.keep K411 all0
  refine own_go (fun _ k => st411.trans k) ?_
  show own_Fin p.tables e below G (T411.setTop (mkF m 10 #[.val (.int p0), .val (.int p1), .val (.int p2), .val (.int p3), .val (.int p4), .val (.int p5), .val (.ref b408), .unset, .unset, .unset, .unset, .unset, .unset, .unset, .unset, .unset, .unset] [(.ref b411)]))
  refine own_go (fun _ k => XS.astore X411.here hx rfl (hb hby at_10) rfl rfl (l' := #[.val (.int p0), .val (.int p1), .val (.int p2), .val (.int p3), .val (.int p4), .val (.int p5), .val (.ref b408), .val (.ref b411), .unset, .unset, .unset, .unset, .unset, .unset, .unset, .unset, .unset]) rfl k) ?_
  show own_Fin p.tables e below G (T411.setTop (mkF m 12 #[.val (.int p0), .val (.int p1), .val (.int p2), .val (.int p3), .val (.int p4), .val (.int p5), .val (.ref b408), .val (.ref b411), .unset, .unset, .unset, .unset, .unset, .unset, .unset, .unset, .unset] []))
  refine own_go (fun _ k => XS.iload X411.here hx rfl (hb hby at_12) rfl k) ?_
  show own_Fin p.tables e below G (T411.setTop (mkF m 14 #[.val (.int p0), .val (.int p1), .val (.int p2), .val (.int p3), .val (.int p4), .val (.int p5), .val (.ref b408), .val (.ref b411), .unset, .unset, .unset, .unset, .unset, .unset, .unset, .unset, .unset] [(.int p4)]))
  refine own_go (fun _ k => XS.iconst X411.here hx rfl (hb hby at_14)  k) ?_
  show own_Fin p.tables e below G (T411.setTop (mkF m 15 #[.val (.int p0), .val (.int p1), .val (.int p2), .val (.int p3), .val (.int p4), .val (.int p5), .val (.ref b408), .val (.ref b411), .unset, .unset, .unset, .unset, .unset, .unset, .unset, .unset, .unset] [(.int (1 : Int32)), (.int p4)]))
  refine own_go (fun _ k => XS.iand X411.here hx rfl (hb hby at_15) rfl k) ?_
  show own_Fin p.tables e below G (T411.setTop (mkF m 16 #[.val (.int p0), .val (.int p1), .val (.int p2), .val (.int p3), .val (.int p4), .val (.int p5), .val (.ref b408), .val (.ref b411), .unset, .unset, .unset, .unset, .unset, .unset, .unset, .unset, .unset] [(.int (p4 &&& (1 : Int32)))]))
  by_cases hc16 : (p4 &&& (1 : Int32)) = 0
  · refine own_go (fun _ k => XS.ifYes X411.here hx rfl (pc0 := 16) (pc' := 27) rfl (hb hby at_16) rfl (Jvm.Free.XT.i0_eq_t hc16) (by decide) (by decide) k) ?_
    show own_Fin p.tables e below G (T411.setTop (mkF m 27 #[.val (.int p0), .val (.int p1), .val (.int p2), .val (.int p3), .val (.int p4), .val (.int p5), .val (.ref b408), .val (.ref b411), .unset, .unset, .unset, .unset, .unset, .unset, .unset, .unset, .unset] []))
    refine own_go (fun _ k => XS.iloadN X411.here hx rfl (hb hby at_27) rfl k) ?_
    show own_Fin p.tables e below G (T411.setTop (mkF m 28 #[.val (.int p0), .val (.int p1), .val (.int p2), .val (.int p3), .val (.int p4), .val (.int p5), .val (.ref b408), .val (.ref b411), .unset, .unset, .unset, .unset, .unset, .unset, .unset, .unset, .unset] [(.int p0)]))
    obtain ⟨_, _, ⟨T415, L415, k415, n415⟩, -, X415, S415, gs415, ⟨Lc415, hQ415, l415, y415, z415, R415⟩, st415⟩ := callSS X411 hx (y := (⟨"com/example/tagwright/tagwright/diag/DiagnosticEqualsPinLaw", "mk", "(I)Ljava/lang/String;"⟩ : MethodName)) hown411 (mvT hZ411 (own_at hw 0 rfl)) (mvT hZ411 (own_at hw 1 rfl)) (mvT hZ411 (own_at hw 2 rfl)) (mvT hZ411 (own_at hw 3 rfl)) (by decide) (backOfSH (W := 0) (own_mk l Z a0 hw [] p0 cs T411.heap n0 O414 SCS hcs) hZ411 (own_at hw 3 rfl) (own_at hw 2 rfl) (by decide) (by decide) hEL CH412.1) (g := (mkF m 28 #[.val (.int p0), .val (.int p1), .val (.int p2), .val (.int p3), .val (.int p4), .val (.int p5), .val (.ref b408), .val (.ref b411), .unset, .unset, .unset, .unset, .unset, .unset, .unset, .unset, .unset] [(.int p0)])) rfl (by rw [hml]; rfl) (argsL := [(.int p0)]) (rest := []) (lenOf own_pd8 rfl) rfl (by show 2 * 0 + _ ≤ _; exact Nat.le_of_eq rfl) (hb hby at_28) (fun _ _ => ⟨rfl, (rfl : T411.heap = T411.heap), (by decide : 12 + 6 ≤ _), (by decide : 24 + 12 ≤ _)⟩)
    dsimp only [Pt.U, Pt.locs, Pt.cells, Pt.slots] at X415 l415 y415 z415 st415 hQ415 S415 gs415 R415
    subst l415 y415 z415
    have SS415 := foldS SS411 (own_hk (rfl : T411.heap = T411.heap) hkk411) S415 gs415
    have hZ415 := own_rebZ hZ411 S415
    have hown415 := own_rebO hown411 S415
    have hkk415 : T415.heap.size ≤ T415.heap.size := Nat.le_refl _
    have X415 : Stand p l e room_1 (s.setVm T415.vm) m #[(.int p0), (.int p1), (.int p2), (.int p3), (.int p4), (.int p5)] below meth c T415 _ _ _ := X415
    have CH416 := CH412.trans R415
    obtain ⟨b415, rfl, N415q, K415, S415⟩ := hQ415
    have N415 := Fr.app N411 N415q
    have P417 := P413.keep0 K415
    have P418 := S411.keep0 K415
    have O419 := O414.keep K415 all0
    refine own_go (fun _ k => st415.trans k) ?_
    show own_Fin p.tables e below G (T415.setTop (mkF m 31 #[.val (.int p0), .val (.int p1), .val (.int p2), .val (.int p3), .val (.int p4), .val (.int p5), .val (.ref b408), .val (.ref b411), .unset, .unset, .unset, .unset, .unset, .unset, .unset, .unset, .unset] [(.ref b415)]))
    exact own_k31 _ _ _ _ _ (own_mono X415 (by decide) (by decide)) hZ415 hown415 SS415 hkk415 (rfl : T415.heap = T415.heap) N415 O419 CH416 b408 b411 b415 (own_cs p0) P417 P418 S415
  · refine own_go (fun _ k => XS.ifNo X411.here hx rfl (hb hby at_16) rfl (Jvm.Free.XT.i0_eq_f hc16) k) ?_
    show own_Fin p.tables e below G (T411.setTop (mkF m 19 #[.val (.int p0), .val (.int p1), .val (.int p2), .val (.int p3), .val (.int p4), .val (.int p5), .val (.ref b408), .val (.ref b411), .unset, .unset, .unset, .unset, .unset, .unset, .unset, .unset, .unset] []))
    refine own_go (fun _ k => XS.iload X411.here hx rfl (hb hby at_19) rfl k) ?_
    show own_Fin p.tables e below G (T411.setTop (mkF m 21 #[.val (.int p0), .val (.int p1), .val (.int p2), .val (.int p3), .val (.int p4), .val (.int p5), .val (.ref b408), .val (.ref b411), .unset, .unset, .unset, .unset, .unset, .unset, .unset, .unset, .unset] [(.int p5)]))
    obtain ⟨_, _, ⟨T420, L420, k420, n420⟩, -, X420, S420, gs420, ⟨Lc420, hQ420, l420, y420, z420, R420⟩, st420⟩ := callSS X411 hx (y := (⟨"com/example/tagwright/tagwright/diag/DiagnosticEqualsPinLaw", "mk", "(I)Ljava/lang/String;"⟩ : MethodName)) hown411 (mvT hZ411 (own_at hw 0 rfl)) (mvT hZ411 (own_at hw 1 rfl)) (mvT hZ411 (own_at hw 2 rfl)) (mvT hZ411 (own_at hw 3 rfl)) (by decide) (backOfSH (W := 0) (own_mk l Z a0 hw [] p5 cs T411.heap n0 O414 SCS hcs) hZ411 (own_at hw 3 rfl) (own_at hw 2 rfl) (by decide) (by decide) hEL CH412.1) (g := (mkF m 21 #[.val (.int p0), .val (.int p1), .val (.int p2), .val (.int p3), .val (.int p4), .val (.int p5), .val (.ref b408), .val (.ref b411), .unset, .unset, .unset, .unset, .unset, .unset, .unset, .unset, .unset] [(.int p5)])) rfl (by rw [hml]; rfl) (argsL := [(.int p5)]) (rest := []) (lenOf own_pd8 rfl) rfl (by show 2 * 0 + _ ≤ _; exact Nat.le_of_eq rfl) (hb hby at_21) (fun _ _ => ⟨rfl, (rfl : T411.heap = T411.heap), (by decide : 12 + 6 ≤ _), (by decide : 24 + 12 ≤ _)⟩)
    dsimp only [Pt.U, Pt.locs, Pt.cells, Pt.slots] at X420 l420 y420 z420 st420 hQ420 S420 gs420 R420
    subst l420 y420 z420
    have SS420 := foldS SS411 (own_hk (rfl : T411.heap = T411.heap) hkk411) S420 gs420
    have hZ420 := own_rebZ hZ411 S420
    have hown420 := own_rebO hown411 S420
    have hkk420 : T420.heap.size ≤ T420.heap.size := Nat.le_refl _
    have X420 : Stand p l e room_1 (s.setVm T420.vm) m #[(.int p0), (.int p1), (.int p2), (.int p3), (.int p4), (.int p5)] below meth c T420 _ _ _ := X420
    have CH421 := CH412.trans R420
    obtain ⟨b420, rfl, N420q, K420, S420⟩ := hQ420
    have N420 := Fr.app N411 N420q
    have P422 := P413.keep0 K420
    have P423 := S411.keep0 K420
    have O424 := O414.keep K420 all0
    refine own_go (fun _ k => st420.trans k) ?_
    show own_Fin p.tables e below G (T420.setTop (mkF m 24 #[.val (.int p0), .val (.int p1), .val (.int p2), .val (.int p3), .val (.int p4), .val (.int p5), .val (.ref b408), .val (.ref b411), .unset, .unset, .unset, .unset, .unset, .unset, .unset, .unset, .unset] [(.ref b420)]))
    refine own_go (fun _ k => XS.goto X420.here hx rfl (pc0 := 24) (pc' := 31) rfl (hb hby at_24) (by decide) (by decide) k) ?_
    show own_Fin p.tables e below G (T420.setTop (mkF m 31 #[.val (.int p0), .val (.int p1), .val (.int p2), .val (.int p3), .val (.int p4), .val (.int p5), .val (.ref b408), .val (.ref b411), .unset, .unset, .unset, .unset, .unset, .unset, .unset, .unset, .unset] [(.ref b420)]))
    exact own_k31 _ _ _ _ _ (own_mono X420 (by decide) (by decide)) hZ420 hown420 SS420 hkk420 (rfl : T420.heap = T420.heap) N420 O424 CH421 b408 b411 b420 (own_cs p5) P422 P423 S420
set_option maxRecDepth 65536 in
set_option maxHeartbeats 40000000 in
theorem comes_1 {Post : Tables → Env → Array Value → State → Outcome → State → Prop} (hpost : ∀ tb e args s v u, (limb_1_1.after args s (.returned v) u = true ∧ limb_1_2.after args s (.returned v) u = true ∧ True) → ReturnedEndW s (.returned v) u (Jvm.fieldLocs frame_1_writes args s ++ Jvm.arrayLocs frame_1_arrays args s ++ Jvm.staticLocs frame_1_statics s) 48 3264 → Post tb e args s (.returned v) u) :
    ArmFor flags0 classFile x code maxLocals ret World_1 tables_1 room_1 Calls_1 rest_1 Pre_1 Post := by
  intro l hfl _ _ p e ha hc hk s m args below hf hA hF happ hP
  obtain ⟨hcalls, hrest, hpre⟩ := hP
  obtain ⟨-, -, -, hnamed, -, -, -, hat⟩ := (Spec.applies_iff hf).mp happ
  obtain ⟨hg, hn⟩ := and_e (Cond.before_iff.mp (show (Jvm.Cond.and given_1 narrow_1).before args s = true from hpre))
  obtain ⟨g425, g426⟩ := and_e hg
  obtain ⟨g427, g428⟩ := and_e g426
  obtain ⟨g429, g430⟩ := and_e g428
  obtain ⟨g431, g432⟩ := and_e g430
  obtain ⟨g433, g434⟩ := and_e g432
  obtain ⟨g435, g436⟩ := and_e g434
  obtain ⟨w0, w1, w2, w3, w4, w5, rfl⟩ : ∃ w0 w1 w2 w3 w4 w5 : Value, args = #[w0, w1, w2, w3, w4, w5] := by
    have hs : args.size = 6 := by simpa [Cond.value, given_1] using g425
    obtain ⟨L⟩ := args
    match L, hs with
    | [w0, w1, w2, w3, w4, w5], _ => exact ⟨w0, w1, w2, w3, w4, w5, rfl⟩
  have hw := fun d (hd : d ∈ tables_1) => atoms_spec (ws := Jvm.Cond.code x code maxLocals ret :: tables_1) hat d (List.mem_cons_of_mem _ hd)
  have hfit : Fit s := fun {y c} hc i hi => by
    obtain ⟨ha, rfl⟩ := Array.getElem?_eq_some_iff.mp hc
    have q := List.all_eq_true.mp ((Array.all_eq_true_iff_forall_mem.mp hF) _ (Array.getElem_mem ha)) i (List.mem_range.mpr hi)
    simpa [Array.getElem?_eq_getElem hi] using q
  obtain ⟨hsets, hown0⟩ := atoms_of _ (rest_1_c_eq ▸ (show rest_1_c.before _ s = true from hrest))
  obtain ⟨i0, ei0⟩ := is_v g427
  obtain rfl : w0 = (.int i0) := Option.some.inj ei0
  obtain ⟨i1, ei1⟩ := is_v g429
  obtain rfl : w1 = (.int i1) := Option.some.inj ei1
  obtain ⟨i2, ei2⟩ := is_v g431
  obtain rfl : w2 = (.int i2) := Option.some.inj ei2
  obtain ⟨i3, ei3⟩ := is_v g433
  obtain rfl : w3 = (.int i3) := Option.some.inj ei3
  obtain ⟨i4, ei4⟩ := is_v g435
  obtain rfl : w4 = (.int i4) := Option.some.inj ei4
  obtain ⟨i5, ei5⟩ := is_v g436
  obtain rfl : w5 = (.int i5) := Option.some.inj ei5
  obtain ⟨cs, ecs⟩ := is_v (Cond.before_iff.mp (hsets _ (List.mem_of_getElem? (i := 1) rfl)))
  have SCS := Sta.start ecs (Or.inl (hsets _ (List.mem_of_getElem? (i := 0) rfl)))
  have hcs : ¬ (cs = 0) := own_cs0 ecs (Cond.before_iff.mp (hsets _ (List.mem_of_getElem? (i := 2) rfl)))
  obtain ⟨oc, eoc⟩ := exa_v (Cond.before_iff.mp (hsets _ (List.mem_of_getElem? (i := 14) rfl)))
  have SC := Sta.start eoc (Or.inr ⟨(own_at hw 100 rfl), (hsets _ (List.mem_of_getElem? (i := 11) rfl))⟩)
  obtain ⟨cc, Ac⟩ := Arr.start eoc (Cond.before_iff.mp (hsets _ (List.mem_of_getElem? (i := 13) rfl)))
  have SH := Sta.start (own_eqI (Cond.before_iff.mp (hsets _ (List.mem_of_getElem? (i := 12) rfl)))) (Or.inl (hsets _ (List.mem_of_getElem? (i := 10) rfl)))
  obtain ⟨lz, ql⟩ := own_len eoc Ac (Cond.before_iff.mp (hsets _ (List.mem_of_getElem? (i := 15) rfl)))
  have BX : Bxs s oc cc "java/lang/Integer" "I" (256 : Int32) (fun j => .int (own_iv j)) := Bxs.start (fun idx => eoc) Ac lz ql (by decide) (Cond.before_iff.mp (hsets _ (List.mem_of_getElem? (i := 16) rfl))) (fun X j hj hq => eqv_i (own_sub (idx_at hj)) hq)
  have CHs : CHv s EL s.vm s.heap := CHv.start (own_EW hw) (fun p hp => hcalls.1 p (List.mem_cons_of_mem _ (List.mem_cons_of_mem _ hp))) (hsets _ (List.mem_of_getElem? (i := 2) rfl)) (own_at hw 19 rfl) (own_at hw 5 rfl)
  obtain ⟨n, o, h1, h2, h3, _, L, rfl, ⟨rfl, N⟩, hq⟩ := own_law l s _ hw tables_1 i0 i1 i2 i3 i4 i5 cs oc cc s.heap s.heap.size (Old.start s) SCS hcs SC SH BX p e ha hc hk s m _ below hf ((Spec.applies_iff_loose hf).mp happ).1 ⟨rfl, State.Warmed39.refl s, rfl, CHs⟩ trivial
  refine ⟨n, _, h1, h2, h3, hpost _ _ _ _ _ _ ⟨Cond.after_iff.mpr rfl, Cond.after_iff.mpr (eq_i res_at (Term.int_eval (1)) rfl), trivial⟩ ⟨hq.1, hq.2.1, hq.2.2.1, (hq.2.2.2.sift fun y hy => Or.inr (N y hy)).mono (by decide) (by decide)⟩⟩
theorem main_1_1 : Claimed_1_1 := comes_1 fun _ _ _ _ _ _ h hF => ⟨h.1, hF⟩
theorem main_1_2 : Claimed_1_2 := comes_1 fun _ _ _ _ _ _ h hF => ⟨h.2.1, hF⟩
end Jvm.Pilot.@@N@@
namespace Jvm.Pilot.@@N@@
open Jvm Jvm.ClassFile Sem Op Lib Jvm.Free Jvm.Stand Jvm.Pilot.@@N@@.Jvm.D
/-! MADE BY PROGRAM (witnessworld.py) out of the Statement's table words and the real class files: 25 classes; the members and pool entries that the words name. The judged class is class 1, her method 2. -/
namespace start1
open Jvm.ClassFile
def u (s : String) : CpInfo := .utf8 (stringToUtf16 s)
/-- a pool by its gaps: so many unusable entries, then the entry; so many at the end -/
def gap : Nat → List CpInfo → List CpInfo
  | 0, r => r
  | n + 1, r => .unusable :: gap n r
def poolList (es : List (Nat × CpInfo)) (last : Nat) : List CpInfo := es.foldr (fun e r => gap e.1 (e.2 :: r)) (gap last [])
def pool (es : List (Nat × CpInfo)) (last : Nat) : Array CpInfo := ⟨poolList es last⟩
def fileOf (pool : Array CpInfo) (this : Nat) (attrs : Array Attribute := #[]) (ms : Array MethodInfo := #[]) (fl : Nat := 33) (sup : Nat := 0) (ifs : Array Nat := #[]) (fds : Array FieldInfo := #[]) : ClassFile where
  minorVersion := 0
  majorVersion := 65
  constantPool := pool
  accessFlags := fl
  thisClass := this
  superClass := sup
  interfaces := ifs
  fields := fds
  methods := ms
  attributes := attrs
def plain (name : String) (sup : Option ClassId) : Class where
  name := name
  kind := .ordinary
  loader := none
  accessFlags := 33
  super := sup
  interfaces := #[]
  cf := none
  fields := #[]
  methods := #[]
  instanceTypes := #[]
  staticTypes := #[]
  resolved := #[]
  callSites := []
  init := .initialized
  statics := none
  mirror := none

def pool0 : Array CpInfo := pool [(5, u "<init>"), (0, u "()V"), (1, .class_ 10), (1, u "java/lang/Object")] 113

def k0c0 : Code := { maxStack := 0, maxLocals := 1, code := object_method_1_code, exceptionTable := #[], attributes := #[] }
def k0m0 : Method := { name := "<init>", desc := "()V", sig := { parameters := [], returnType := none }, accessFlags := 1, code := some k0c0 }
/-- java/lang/Object -/
def k0 : Class := { plain "java/lang/Object" none with
  accessFlags := 33
  interfaces := #[]
  cf := some (fileOf pool0 8 #[] #[{ accessFlags := 1, nameIndex := 5, descriptorIndex := 6, attributes := #[] }] 33 0 #[] #[])
  fields := #[]
  methods := #[k0m0]
  instanceTypes := #[]
  staticTypes := #[]
  resolved := Array.replicate 124 none
  statics := none }

def pool1 : Array CpInfo := pool [(2, .class_ 4), (1, u "java/lang/Object"), (0, u "<init>"), (0, u "()V"), (0, .class_ 8), (0, u "java/lang/String"), (0, .methodref 7 10), (0, .nameAndType 5 11), (0, u "([C)V"), (0, .methodref 13 14), (0, .class_ 15), (0, .nameAndType 16 17), (0, u "com/example/tagwright/tagwright/diag/DiagnosticEqualsPinLaw"), (0, u "mk"), (0, u "(I)Ljava/lang/String;"), (0, .class_ 19), (0, u "com/example/tagwright/tagwright/diag/Diagnostic"), (0, .methodref 18 21), (0, .nameAndType 5 22), (0, u "(Ljava/lang/String;IILjava/lang/String;)V"), (0, .methodref 24 25), (0, .class_ 26), (0, .nameAndType 27 28), (0, u "java/lang/Integer"), (0, u "valueOf"), (0, u "(I)Ljava/lang/Integer;"), (0, .methodref 18 30), (0, .nameAndType 31 32), (0, u "equals"), (0, u "(Ljava/lang/Object;)Z"), (0, .methodref 7 30), (3, u "law"), (0, u "(IIIIII)Z")] 2

def k1m0 : Method := { name := "<init>", desc := "()V", sig := { parameters := [], returnType := none }, accessFlags := 1, code := none }
def k1c1 : Code := { maxStack := 6, maxLocals := 5, code := method_2_code, exceptionTable := #[], attributes := #[] }
def k1m1 : Method := { name := "mk", desc := "(I)Ljava/lang/String;", sig := { parameters := [.int], returnType := some (.object "java/lang/String") }, accessFlags := 10, code := some k1c1 }
def k1c2 : Code := { maxStack := 6, maxLocals := 17, code := code, exceptionTable := #[], attributes := #[] }
def k1m2 : Method := { name := "law", desc := "(IIIIII)Z", sig := { parameters := [.int, .int, .int, .int, .int, .int], returnType := some .boolean }, accessFlags := 9, code := some k1c2 }
/-- com/example/tagwright/tagwright/diag/DiagnosticEqualsPinLaw -/
def k1 : Class := { plain "com/example/tagwright/tagwright/diag/DiagnosticEqualsPinLaw" (some 0) with
  accessFlags := 49
  interfaces := #[]
  cf := some (fileOf pool1 13 #[] #[{ accessFlags := 1, nameIndex := 5, descriptorIndex := 6, attributes := #[] }, { accessFlags := 10, nameIndex := 16, descriptorIndex := 17, attributes := #[] }, { accessFlags := 9, nameIndex := 37, descriptorIndex := 38, attributes := #[] }] 49 2 #[] #[])
  fields := #[]
  methods := #[k1m0, k1m1, k1m2]
  instanceTypes := #[]
  staticTypes := #[]
  resolved := Array.replicate 41 none
  statics := none }

def pool2 : Array CpInfo := pool [(1, .class_ 2), (0, u "java/io/Serializable"), (0, .class_ 4), (0, u "java/lang/Object")] 2

/-- java/io/Serializable -/
def k2 : Class := { plain "java/io/Serializable" (some 0) with
  accessFlags := 1537
  interfaces := #[]
  cf := some (fileOf pool2 1 #[] #[] 1537 3 #[] #[])
  fields := #[]
  methods := #[]
  instanceTypes := #[]
  staticTypes := #[]
  resolved := Array.replicate 7 none
  statics := none }

def pool3 : Array CpInfo := pool [(1, .class_ 2), (0, u "java/lang/Comparable"), (0, .class_ 4), (0, u "java/lang/Object")] 7

/-- java/lang/Comparable -/
def k3 : Class := { plain "java/lang/Comparable" (some 0) with
  accessFlags := 1537
  interfaces := #[]
  cf := some (fileOf pool3 1 #[] #[] 1537 3 #[] #[])
  fields := #[]
  methods := #[]
  instanceTypes := #[]
  staticTypes := #[]
  resolved := Array.replicate 12 none
  statics := none }

def pool4 : Array CpInfo := pool [(2, .class_ 4), (1, u "java/lang/CharSequence"), (42, .class_ 48), (0, u "java/lang/CharSequence$1CodePointIterator"), (10, .class_ 60), (0, u "java/lang/CharSequence$1CharIterator"), (5, .class_ 67), (0, u "java/lang/Object")] 63

/-- java/lang/CharSequence -/
def k4 : Class := { plain "java/lang/CharSequence" (some 0) with
  accessFlags := 1537
  interfaces := #[]
  cf := some (fileOf pool4 2 #[.nestMembers #[47, 59]] #[] 1537 66 #[] #[])
  fields := #[]
  methods := #[]
  instanceTypes := #[]
  staticTypes := #[]
  resolved := Array.replicate 131 none
  statics := none }

def pool5 : Array CpInfo := pool [(1, .class_ 2), (0, u "java/lang/constant/Constable"), (0, .class_ 4), (0, u "java/lang/Object")] 6

/-- java/lang/constant/Constable -/
def k5 : Class := { plain "java/lang/constant/Constable" (some 0) with
  accessFlags := 1537
  interfaces := #[]
  cf := some (fileOf pool5 1 #[] #[] 1537 3 #[] #[])
  fields := #[]
  methods := #[]
  instanceTypes := #[]
  staticTypes := #[]
  resolved := Array.replicate 11 none
  statics := none }

def pool6 : Array CpInfo := pool [(1, .class_ 2), (0, u "java/lang/constant/ConstantDesc"), (0, .class_ 4), (0, u "java/lang/Object")] 32

/-- java/lang/constant/ConstantDesc -/
def k6 : Class := { plain "java/lang/constant/ConstantDesc" (some 0) with
  accessFlags := 1537
  interfaces := #[]
  cf := some (fileOf pool6 1 #[] #[] 1537 3 #[] #[])
  fields := #[]
  methods := #[]
  instanceTypes := #[]
  staticTypes := #[]
  resolved := Array.replicate 37 none
  statics := none }

def pool7 : Array CpInfo := pool [(1, .methodref 2 3), (0, .class_ 4), (0, .nameAndType 5 6), (0, u "java/lang/Object"), (0, u "<init>"), (0, u "()V"), (0, .string 8), (0, u ""), (0, .fieldref 10 11), (0, .class_ 12), (0, .nameAndType 13 14), (0, u "java/lang/String"), (0, u "value"), (0, u "[B"), (0, .fieldref 10 16), (0, .nameAndType 17 18), (0, u "coder"), (0, u "B"), (2, u "hash"), (0, u "I"), (2, u "hashIsZero"), (0, u "Z"), (0, .methodref 10 28), (0, .nameAndType 5 29), (0, u "([CIILjava/lang/Void;)V"), (8, .fieldref 10 39), (0, .nameAndType 40 26), (0, u "COMPACT_STRINGS"), (1, .class_ 44), (1, u "java/lang/StringUTF16"), (0, u "compress"), (1, .methodref 42 48), (0, .nameAndType 49 50), (0, u "coderFromArrayLen"), (0, u "([BI)B"), (56, .class_ 109), (1, u "java/lang/StringLatin1"), (67, .methodref 42 178), (0, .nameAndType 45 179), (0, u "([CII)[B"), (361, .methodref 107 542), (0, .nameAndType 543 544), (0, u "equals"), (0, u "([B[B)Z"), (28, u "(Ljava/lang/Object;)Z"), (1, .class_ 576), (0, u "java/lang/CharSequence"), (22, u "CASE_INSENSITIVE_ORDER"), (0, u "Ljava/util/Comparator;"), (409, u "([C)V"), (90, u "serialPersistentFields"), (0, u "[Ljava/io/ObjectStreamField;"), (0, .class_ 1104), (0, u "java/lang/String$CaseInsensitiveComparator"), (1, .class_ 1107), (0, u "java/io/Serializable"), (0, .class_ 1109), (0, u "java/lang/Comparable"), (0, .class_ 1111), (0, u "java/lang/constant/Constable"), (0, .class_ 1113), (0, u "java/lang/constant/ConstantDesc"), (2, u "serialVersionUID"), (0, u "J"), (3, u "REPL"), (0, u "C"), (2, u "LATIN1"), (1, u "UTF16")] 323

def k7m0 : Method := { name := "<init>", desc := "()V", sig := { parameters := [], returnType := none }, accessFlags := 1, code := none }
def k7c1 : Code := { maxStack := 5, maxLocals := 2, code := jdk_42_method_3_code, exceptionTable := #[], attributes := #[] }
def k7m1 : Method := { name := "<init>", desc := "([C)V", sig := { parameters := [(.array .char)], returnType := none }, accessFlags := 1, code := some k7c1 }
def k7c2 : Code := { maxStack := 2, maxLocals := 3, code := jdk_42_method_66_code, exceptionTable := #[], attributes := #[] }
def k7m2 : Method := { name := "equals", desc := "(Ljava/lang/Object;)Z", sig := { parameters := [(.object "java/lang/Object")], returnType := some .boolean }, accessFlags := 1, code := some k7c2 }
def k7c3 : Code := { maxStack := 4, maxLocals := 6, code := jdk_42_method_149_code, exceptionTable := #[], attributes := #[] }
def k7m3 : Method := { name := "<init>", desc := "([CIILjava/lang/Void;)V", sig := { parameters := [(.array .char), .int, .int, (.object "java/lang/Void")], returnType := none }, accessFlags := 2, code := some k7c3 }
/-- java/lang/String -/
def k7 : Class := { plain "java/lang/String" (some 0) with
  accessFlags := 49
  interfaces := #[2, 3, 4, 5, 6]
  cf := some (fileOf pool7 10 #[.nestMembers #[1103]] #[{ accessFlags := 1, nameIndex := 5, descriptorIndex := 6, attributes := #[] }, { accessFlags := 1, nameIndex := 5, descriptorIndex := 1010, attributes := #[] }, { accessFlags := 1, nameIndex := 543, descriptorIndex := 573, attributes := #[] }, { accessFlags := 2, nameIndex := 5, descriptorIndex := 29, attributes := #[] }] 49 2 #[1106, 1108, 575, 1110, 1112] #[{ accessFlags := 18, nameIndex := 13, descriptorIndex := 14, attributes := #[] }, { accessFlags := 18, nameIndex := 17, descriptorIndex := 18, attributes := #[] }, { accessFlags := 2, nameIndex := 21, descriptorIndex := 22, attributes := #[] }, { accessFlags := 2, nameIndex := 25, descriptorIndex := 26, attributes := #[] }, { accessFlags := 26, nameIndex := 1116, descriptorIndex := 1117, attributes := #[] }, { accessFlags := 24, nameIndex := 40, descriptorIndex := 26, attributes := #[] }, { accessFlags := 26, nameIndex := 1101, descriptorIndex := 1102, attributes := #[] }, { accessFlags := 26, nameIndex := 1121, descriptorIndex := 1122, attributes := #[] }, { accessFlags := 25, nameIndex := 599, descriptorIndex := 600, attributes := #[] }, { accessFlags := 24, nameIndex := 1125, descriptorIndex := 18, attributes := #[] }, { accessFlags := 24, nameIndex := 1127, descriptorIndex := 18, attributes := #[] }])
  fields := #[{ name := "value", type := (.array .byte), accessFlags := 18, slot := 0, constantValue := 0 }, { name := "coder", type := .byte, accessFlags := 18, slot := 1, constantValue := 0 }, { name := "hash", type := .int, accessFlags := 2, slot := 2, constantValue := 0 }, { name := "hashIsZero", type := .boolean, accessFlags := 2, slot := 3, constantValue := 0 }, { name := "serialVersionUID", type := .long, accessFlags := 26, slot := 0, constantValue := 0 }, { name := "COMPACT_STRINGS", type := .boolean, accessFlags := 24, slot := 1, constantValue := 0 }, { name := "serialPersistentFields", type := (.array (.object "java/io/ObjectStreamField")), accessFlags := 26, slot := 2, constantValue := 0 }, { name := "REPL", type := .char, accessFlags := 26, slot := 3, constantValue := 0 }, { name := "CASE_INSENSITIVE_ORDER", type := (.object "java/util/Comparator"), accessFlags := 25, slot := 4, constantValue := 0 }, { name := "LATIN1", type := .byte, accessFlags := 24, slot := 5, constantValue := 0 }, { name := "UTF16", type := .byte, accessFlags := 24, slot := 6, constantValue := 0 }]
  methods := #[k7m0, k7m1, k7m2, k7m3]
  instanceTypes := #[(.array .byte), .byte, .int, .boolean]
  staticTypes := #[.long, .boolean, (.array (.object "java/io/ObjectStreamField")), .char, (.object "java/util/Comparator"), .byte, .byte]
  resolved := Array.replicate 1451 none
  statics := some 0 }

def pool8 : Array CpInfo := pool [(6, .class_ 8), (1, u "java/lang/Object"), (0, u "<init>"), (0, u "()V"), (1, .class_ 14), (1, u "java/lang/StringUTF16"), (31, u "$assertionsDisabled"), (0, u "Z"), (13, u "HI_BYTE_SHIFT"), (0, u "I"), (2, u "LO_BYTE_SHIFT"), (49, .methodref 12 116), (0, .nameAndType 117 118), (0, u "compress"), (0, u "([CI[BII)I"), (3, u "([CII)[B"), (138, u "coderFromArrayLen"), (0, u "([BI)B"), (106, .class_ 371), (1, u "java/lang/StringUTF16$LinesSpliterator"), (58, u "MAX_LENGTH"), (196, .class_ 628), (0, u "java/lang/StringUTF16$CodePointsSpliterator"), (0, .class_ 630), (0, u "java/lang/StringUTF16$CharsSpliterator")] 4

def k8m0 : Method := { name := "<init>", desc := "()V", sig := { parameters := [], returnType := none }, accessFlags := 0, code := none }
def k8c1 : Code := { maxStack := 2, maxLocals := 2, code := jdk_52_method_15_code, exceptionTable := #[], attributes := #[] }
def k8m1 : Method := { name := "coderFromArrayLen", desc := "([BI)B", sig := { parameters := [(.array .byte), .int], returnType := some .byte }, accessFlags := 8, code := some k8c1 }
def k8c2 : Code := { maxStack := 5, maxLocals := 6, code := jdk_52_method_16_code, exceptionTable := #[], attributes := #[] }
def k8m2 : Method := { name := "compress", desc := "([CII)[B", sig := { parameters := [(.array .char), .int, .int], returnType := some (.array .byte) }, accessFlags := 9, code := some k8c2 }
def k8c3 : Code := { maxStack := 3, maxLocals := 7, code := jdk_52_method_21_code, exceptionTable := #[], attributes := #[] }
def k8m3 : Method := { name := "compress", desc := "([CI[BII)I", sig := { parameters := [(.array .char), .int, (.array .byte), .int, .int], returnType := some .int }, accessFlags := 9, code := some k8c3 }
/-- java/lang/StringUTF16 -/
def k8 : Class := { plain "java/lang/StringUTF16" (some 0) with
  accessFlags := 48
  interfaces := #[]
  cf := some (fileOf pool8 12 #[.nestMembers #[627, 629, 369]] #[{ accessFlags := 0, nameIndex := 9, descriptorIndex := 10, attributes := #[] }, { accessFlags := 8, nameIndex := 261, descriptorIndex := 262, attributes := #[] }, { accessFlags := 9, nameIndex := 117, descriptorIndex := 122, attributes := #[] }, { accessFlags := 9, nameIndex := 117, descriptorIndex := 118, attributes := #[] }] 48 6 #[] #[{ accessFlags := 26, nameIndex := 61, descriptorIndex := 62, attributes := #[] }, { accessFlags := 26, nameIndex := 65, descriptorIndex := 62, attributes := #[] }, { accessFlags := 24, nameIndex := 430, descriptorIndex := 62, attributes := #[] }, { accessFlags := 4120, nameIndex := 46, descriptorIndex := 47, attributes := #[] }])
  fields := #[{ name := "HI_BYTE_SHIFT", type := .int, accessFlags := 26, slot := 0, constantValue := 0 }, { name := "LO_BYTE_SHIFT", type := .int, accessFlags := 26, slot := 1, constantValue := 0 }, { name := "MAX_LENGTH", type := .int, accessFlags := 24, slot := 2, constantValue := 0 }, { name := "$assertionsDisabled", type := .boolean, accessFlags := 4120, slot := 3, constantValue := 0 }]
  methods := #[k8m0, k8m1, k8m2, k8m3]
  instanceTypes := #[]
  staticTypes := #[.int, .int, .int, .boolean]
  resolved := Array.replicate 635 none
  statics := none }

def pool9 : Array CpInfo := pool [(1, .methodref 2 3), (0, .class_ 4), (0, .nameAndType 5 6), (0, u "java/lang/Object"), (0, u "<init>"), (0, u "()V"), (0, .string 8), (0, u "file"), (0, .methodref 10 11), (0, .class_ 12), (0, .nameAndType 13 14), (0, u "java/util/Objects"), (0, u "requireNonNull"), (0, u "(Ljava/lang/Object;Ljava/lang/String;)Ljava/lang/Object;"), (0, .class_ 16), (0, u "java/lang/String"), (0, .fieldref 18 19), (0, .class_ 20), (0, .nameAndType 8 21), (0, u "com/example/tagwright/tagwright/diag/Diagnostic"), (0, u "Ljava/lang/String;"), (0, .fieldref 18 23), (0, .nameAndType 24 25), (0, u "line"), (0, u "I"), (0, .fieldref 18 27), (0, .nameAndType 28 25), (0, u "column"), (0, .string 30), (0, u "message"), (0, .fieldref 18 32), (0, .nameAndType 30 21), (0, .methodref 15 34), (0, .nameAndType 35 36), (0, u "equals"), (0, u "(Ljava/lang/Object;)Z"), (14, u "(Ljava/lang/String;IILjava/lang/String;)V")] 24

def k9c0 : Code := { maxStack := 3, maxLocals := 5, code := prog_1_method_1_code, exceptionTable := #[], attributes := #[] }
def k9m0 : Method := { name := "<init>", desc := "(Ljava/lang/String;IILjava/lang/String;)V", sig := { parameters := [(.object "java/lang/String"), .int, .int, (.object "java/lang/String")], returnType := none }, accessFlags := 1, code := some k9c0 }
def k9c1 : Code := { maxStack := 2, maxLocals := 3, code := prog_1_method_6_code, exceptionTable := #[], attributes := #[] }
def k9m1 : Method := { name := "equals", desc := "(Ljava/lang/Object;)Z", sig := { parameters := [(.object "java/lang/Object")], returnType := some .boolean }, accessFlags := 1, code := some k9c1 }
/-- com/example/tagwright/tagwright/diag/Diagnostic -/
def k9 : Class := { plain "com/example/tagwright/tagwright/diag/Diagnostic" (some 0) with
  accessFlags := 49
  interfaces := #[]
  cf := some (fileOf pool9 18 #[] #[{ accessFlags := 1, nameIndex := 5, descriptorIndex := 51, attributes := #[] }, { accessFlags := 1, nameIndex := 35, descriptorIndex := 36, attributes := #[] }] 49 2 #[] #[{ accessFlags := 18, nameIndex := 8, descriptorIndex := 21, attributes := #[] }, { accessFlags := 18, nameIndex := 24, descriptorIndex := 25, attributes := #[] }, { accessFlags := 18, nameIndex := 28, descriptorIndex := 25, attributes := #[] }, { accessFlags := 18, nameIndex := 30, descriptorIndex := 21, attributes := #[] }])
  fields := #[{ name := "file", type := (.object "java/lang/String"), accessFlags := 18, slot := 0, constantValue := 0 }, { name := "line", type := .int, accessFlags := 18, slot := 1, constantValue := 0 }, { name := "column", type := .int, accessFlags := 18, slot := 2, constantValue := 0 }, { name := "message", type := (.object "java/lang/String"), accessFlags := 18, slot := 3, constantValue := 0 }]
  methods := #[k9m0, k9m1]
  instanceTypes := #[(.object "java/lang/String"), .int, .int, (.object "java/lang/String")]
  staticTypes := #[]
  resolved := Array.replicate 76 none
  statics := none }

def pool10 : Array CpInfo := pool [(2, .class_ 4), (1, u "java/lang/Object"), (0, u "<init>"), (0, u "()V"), (35, .class_ 44), (1, u "java/util/Objects"), (0, u "requireNonNull"), (48, u "(Ljava/lang/Object;Ljava/lang/String;)Ljava/lang/Object;")] 89

def k10m0 : Method := { name := "<init>", desc := "()V", sig := { parameters := [], returnType := none }, accessFlags := 2, code := none }
def k10c1 : Code := { maxStack := 3, maxLocals := 2, code := jdk_31_method_11_code, exceptionTable := #[], attributes := #[] }
def k10m1 : Method := { name := "requireNonNull", desc := "(Ljava/lang/Object;Ljava/lang/String;)Ljava/lang/Object;", sig := { parameters := [(.object "java/lang/Object"), (.object "java/lang/String")], returnType := some (.object "java/lang/Object") }, accessFlags := 9, code := some k10c1 }
/-- java/util/Objects -/
def k10 : Class := { plain "java/util/Objects" (some 0) with
  accessFlags := 49
  interfaces := #[]
  cf := some (fileOf pool10 42 #[] #[{ accessFlags := 2, nameIndex := 5, descriptorIndex := 6, attributes := #[] }, { accessFlags := 9, nameIndex := 45, descriptorIndex := 94, attributes := #[] }] 49 2 #[] #[])
  fields := #[]
  methods := #[k10m0, k10m1]
  instanceTypes := #[]
  staticTypes := #[]
  resolved := Array.replicate 184 none
  statics := none }

def pool11 : Array CpInfo := pool [(4, .class_ 6), (1, u "java/lang/Object"), (0, u "<init>"), (0, u "()V"), (5, .class_ 16), (1, u "java/lang/StringLatin1"), (104, u "$assertionsDisabled"), (0, u "Z"), (98, .class_ 223), (1, u "java/lang/StringLatin1$LinesSpliterator"), (57, u "equals"), (0, u "([B[B)Z"), (107, .class_ 391), (0, u "java/lang/StringLatin1$CharsSpliterator")] 3

def k11m0 : Method := { name := "<init>", desc := "()V", sig := { parameters := [], returnType := none }, accessFlags := 0, code := none }
def k11c1 : Code := { maxStack := 3, maxLocals := 3, code := jdk_43_method_13_code, exceptionTable := #[], attributes := #[] }
def k11m1 : Method := { name := "equals", desc := "([B[B)Z", sig := { parameters := [(.array .byte), (.array .byte)], returnType := some .boolean }, accessFlags := 9, code := some k11c1 }
/-- java/lang/StringLatin1 -/
def k11 : Class := { plain "java/lang/StringLatin1" (some 0) with
  accessFlags := 48
  interfaces := #[]
  cf := some (fileOf pool11 14 #[.nestMembers #[390, 221]] #[{ accessFlags := 0, nameIndex := 7, descriptorIndex := 8, attributes := #[] }, { accessFlags := 9, nameIndex := 281, descriptorIndex := 282, attributes := #[] }] 48 4 #[] #[{ accessFlags := 4120, nameIndex := 121, descriptorIndex := 122, attributes := #[] }])
  fields := #[{ name := "$assertionsDisabled", type := .boolean, accessFlags := 4120, slot := 0, constantValue := 0 }]
  methods := #[k11m0, k11m1]
  instanceTypes := #[]
  staticTypes := #[.boolean]
  resolved := Array.replicate 395 none
  statics := none }

def pool12 : Array CpInfo := pool [(1, .methodref 2 3), (0, .class_ 4), (0, .nameAndType 5 6), (0, u "java/lang/Object"), (0, u "<init>"), (0, u "()V"), (1, .class_ 10), (1, u "java/lang/Number"), (2, .class_ 14), (0, u "java/io/Serializable"), (0, u "serialVersionUID"), (0, u "J")] 20

def k12c0 : Code := { maxStack := 1, maxLocals := 1, code := jdk_18_method_1_code, exceptionTable := #[], attributes := #[] }
def k12m0 : Method := { name := "<init>", desc := "()V", sig := { parameters := [], returnType := none }, accessFlags := 1, code := some k12c0 }
/-- java/lang/Number -/
def k12 : Class := { plain "java/lang/Number" (some 0) with
  accessFlags := 1057
  interfaces := #[2]
  cf := some (fileOf pool12 8 #[] #[{ accessFlags := 1, nameIndex := 5, descriptorIndex := 6, attributes := #[] }] 1057 2 #[13] #[{ accessFlags := 26, nameIndex := 15, descriptorIndex := 16, attributes := #[] }])
  fields := #[{ name := "serialVersionUID", type := .long, accessFlags := 26, slot := 0, constantValue := 0 }]
  methods := #[k12m0]
  instanceTypes := #[]
  staticTypes := #[.long]
  resolved := Array.replicate 37 none
  statics := none }

def pool13 : Array CpInfo := pool [(1, .class_ 2), (0, u "java/lang/Integer"), (16, u "digits"), (0, u "[C"), (46, u "<init>"), (17, u "DigitOnes"), (0, u "[B"), (2, u "DigitTens"), (10, .nameAndType 67 101), (0, u "()V"), (85, u "valueOf"), (0, u "(I)Ljava/lang/Integer;"), (0, .class_ 190), (0, u "java/lang/Integer$IntegerCache"), (0, .fieldref 189 192), (0, .nameAndType 193 194), (0, u "high"), (0, u "I"), (0, .fieldref 189 196), (0, .nameAndType 197 198), (0, u "cache"), (0, u "[Ljava/lang/Integer;"), (0, .methodref 1 200), (0, .nameAndType 67 201), (0, u "(I)V"), (0, .methodref 203 100), (0, .class_ 204), (0, u "java/lang/Number"), (0, .fieldref 1 206), (0, .nameAndType 207 194), (0, u "value"), (94, u "TYPE"), (0, u "Ljava/lang/Class;"), (0, .class_ 305), (0, u "java/lang/Comparable"), (0, .class_ 307), (0, u "java/lang/constant/Constable"), (0, .class_ 309), (0, u "java/lang/constant/ConstantDesc"), (0, u "MIN_VALUE"), (1, u "MAX_VALUE"), (3, u "SIZE"), (1, u "BYTES"), (1, u "serialVersionUID"), (0, u "J")] 131

def k13c0 : Code := { maxStack := 3, maxLocals := 1, code := jdk_33_method_22_code, exceptionTable := #[], attributes := #[] }
def k13m0 : Method := { name := "valueOf", desc := "(I)Ljava/lang/Integer;", sig := { parameters := [.int], returnType := some (.object "java/lang/Integer") }, accessFlags := 9, code := some k13c0 }
def k13c1 : Code := { maxStack := 2, maxLocals := 2, code := jdk_33_method_23_code, exceptionTable := #[], attributes := #[] }
def k13m1 : Method := { name := "<init>", desc := "(I)V", sig := { parameters := [.int], returnType := none }, accessFlags := 1, code := some k13c1 }
/-- java/lang/Integer -/
def k13 : Class := { plain "java/lang/Integer" (some 12) with
  accessFlags := 49
  interfaces := #[3, 5, 6]
  cf := some (fileOf pool13 1 #[.nestMembers #[189]] #[{ accessFlags := 9, nameIndex := 187, descriptorIndex := 188, attributes := #[] }, { accessFlags := 1, nameIndex := 67, descriptorIndex := 201, attributes := #[] }] 49 203 #[304, 306, 308] #[{ accessFlags := 25, nameIndex := 310, descriptorIndex := 194, attributes := #[] }, { accessFlags := 25, nameIndex := 312, descriptorIndex := 194, attributes := #[] }, { accessFlags := 25, nameIndex := 302, descriptorIndex := 303, attributes := #[] }, { accessFlags := 24, nameIndex := 19, descriptorIndex := 20, attributes := #[] }, { accessFlags := 24, nameIndex := 89, descriptorIndex := 86, attributes := #[] }, { accessFlags := 24, nameIndex := 85, descriptorIndex := 86, attributes := #[] }, { accessFlags := 18, nameIndex := 207, descriptorIndex := 194, attributes := #[] }, { accessFlags := 25, nameIndex := 316, descriptorIndex := 194, attributes := #[] }, { accessFlags := 25, nameIndex := 318, descriptorIndex := 194, attributes := #[] }, { accessFlags := 26, nameIndex := 320, descriptorIndex := 321, attributes := #[] }])
  fields := #[{ name := "MIN_VALUE", type := .int, accessFlags := 25, slot := 0, constantValue := 0 }, { name := "MAX_VALUE", type := .int, accessFlags := 25, slot := 1, constantValue := 0 }, { name := "TYPE", type := (.object "java/lang/Class"), accessFlags := 25, slot := 2, constantValue := 0 }, { name := "digits", type := (.array .char), accessFlags := 24, slot := 3, constantValue := 0 }, { name := "DigitTens", type := (.array .byte), accessFlags := 24, slot := 4, constantValue := 0 }, { name := "DigitOnes", type := (.array .byte), accessFlags := 24, slot := 5, constantValue := 0 }, { name := "value", type := .int, accessFlags := 18, slot := 0, constantValue := 0 }, { name := "SIZE", type := .int, accessFlags := 25, slot := 6, constantValue := 0 }, { name := "BYTES", type := .int, accessFlags := 25, slot := 7, constantValue := 0 }, { name := "serialVersionUID", type := .long, accessFlags := 26, slot := 8, constantValue := 0 }]
  methods := #[k13m0, k13m1]
  instanceTypes := #[.int]
  staticTypes := #[.int, .int, (.object "java/lang/Class"), (.array .char), (.array .byte), (.array .byte), .int, .int, .long]
  resolved := Array.replicate 453 none
  statics := none }

def pool14 : Array CpInfo := pool [(2, .class_ 4), (1, u "java/lang/Object"), (0, u "<init>"), (0, u "()V"), (0, .class_ 8), (0, u "java/lang/Integer"), (7, .class_ 18), (1, u "java/lang/Integer$IntegerCache"), (0, u "$assertionsDisabled"), (0, u "Z"), (26, u "high"), (0, u "I"), (8, u "archivedCache"), (0, u "[Ljava/lang/Integer;"), (12, u "cache"), (0, u "low")] 27

def k14m0 : Method := { name := "<init>", desc := "()V", sig := { parameters := [], returnType := none }, accessFlags := 2, code := none }
/-- java/lang/Integer$IntegerCache -/
def k14 : Class := { plain "java/lang/Integer$IntegerCache" (some 0) with
  accessFlags := 48
  interfaces := #[]
  cf := some (fileOf pool14 16 #[.nestHost 7] #[{ accessFlags := 2, nameIndex := 5, descriptorIndex := 6, attributes := #[] }] 48 2 #[] #[{ accessFlags := 24, nameIndex := 72, descriptorIndex := 48, attributes := #[] }, { accessFlags := 24, nameIndex := 47, descriptorIndex := 48, attributes := #[] }, { accessFlags := 24, nameIndex := 71, descriptorIndex := 58, attributes := #[] }, { accessFlags := 8, nameIndex := 57, descriptorIndex := 58, attributes := #[] }, { accessFlags := 4120, nameIndex := 19, descriptorIndex := 20, attributes := #[] }])
  fields := #[{ name := "low", type := .int, accessFlags := 24, slot := 0, constantValue := 0 }, { name := "high", type := .int, accessFlags := 24, slot := 1, constantValue := 0 }, { name := "cache", type := (.array (.object "java/lang/Integer")), accessFlags := 24, slot := 2, constantValue := 0 }, { name := "archivedCache", type := (.array (.object "java/lang/Integer")), accessFlags := 8, slot := 3, constantValue := 0 }, { name := "$assertionsDisabled", type := .boolean, accessFlags := 4120, slot := 4, constantValue := 0 }]
  methods := #[k14m0]
  instanceTypes := #[]
  staticTypes := #[.int, .int, (.array (.object "java/lang/Integer")), (.array (.object "java/lang/Integer")), .boolean]
  resolved := Array.replicate 100 none
  statics := some 1 }

def pool15 : Array CpInfo := pool [(2, .class_ 4), (1, u "java/lang/Object"), (0, u "<init>"), (0, u "()V"), (17, .class_ 26), (1, u "jdk/internal/util/Preconditions"), (28, .class_ 56), (0, u "jdk/internal/util/Preconditions$4"), (57, .class_ 115), (0, u "jdk/internal/util/Preconditions$1"), (7, u "SIOOBE_FORMATTER"), (0, u "Ljava/util/function/BiFunction;"), (0, .class_ 126), (0, u "jdk/internal/util/Preconditions$2"), (3, u "AIOOBE_FORMATTER"), (0, .class_ 132), (0, u "jdk/internal/util/Preconditions$3"), (3, u "IOOBE_FORMATTER")] 57

def k15m0 : Method := { name := "<init>", desc := "()V", sig := { parameters := [], returnType := none }, accessFlags := 1, code := none }
/-- jdk/internal/util/Preconditions -/
def k15 : Class := { plain "jdk/internal/util/Preconditions" (some 0) with
  accessFlags := 33
  interfaces := #[]
  cf := some (fileOf pool15 24 #[.nestMembers #[55, 131, 125, 114]] #[{ accessFlags := 1, nameIndex := 5, descriptorIndex := 6, attributes := #[] }] 33 2 #[] #[{ accessFlags := 25, nameIndex := 123, descriptorIndex := 124, attributes := #[] }, { accessFlags := 25, nameIndex := 130, descriptorIndex := 124, attributes := #[] }, { accessFlags := 25, nameIndex := 136, descriptorIndex := 124, attributes := #[] }])
  fields := #[{ name := "SIOOBE_FORMATTER", type := (.object "java/util/function/BiFunction"), accessFlags := 25, slot := 0, constantValue := 0 }, { name := "AIOOBE_FORMATTER", type := (.object "java/util/function/BiFunction"), accessFlags := 25, slot := 1, constantValue := 0 }, { name := "IOOBE_FORMATTER", type := (.object "java/util/function/BiFunction"), accessFlags := 25, slot := 2, constantValue := 0 }]
  methods := #[k15m0]
  instanceTypes := #[]
  staticTypes := #[(.object "java/util/function/BiFunction"), (.object "java/util/function/BiFunction"), (.object "java/util/function/BiFunction")]
  resolved := Array.replicate 194 none
  statics := some 2 }

def pool16 : Array CpInfo := pool [(9, u "<init>"), (6, .class_ 18), (1, u "java/lang/Object"), (0, u "()V"), (1, .class_ 23), (1, u "jdk/internal/util/ArraysSupport"), (0, u "LOG2_ARRAY_LONG_INDEX_SCALE"), (0, u "I"), (2, u "U"), (0, u "Ljdk/internal/misc/Unsafe;"), (8, u "BIG_ENDIAN"), (0, u "Z"), (8, u "LOG2_BYTE_BIT_SIZE"), (4, u "LOG2_ARRAY_INT_INDEX_SCALE"), (54, u "JLA"), (0, u "Ljdk/internal/access/JavaLangAccess;"), (11, u "LOG2_ARRAY_BOOLEAN_INDEX_SCALE"), (9, u "LOG2_ARRAY_BYTE_INDEX_SCALE"), (5, u "LOG2_ARRAY_CHAR_INDEX_SCALE"), (5, u "LOG2_ARRAY_SHORT_INDEX_SCALE"), (18, u "LOG2_ARRAY_FLOAT_INDEX_SCALE"), (24, u "LOG2_ARRAY_DOUBLE_INDEX_SCALE"), (89, u "T_BOOLEAN"), (2, u "T_CHAR"), (1, u "T_FLOAT"), (1, u "T_DOUBLE"), (1, u "T_BYTE"), (1, u "T_SHORT"), (1, u "T_INT"), (1, u "T_LONG"), (1, u "SOFT_MAX_ARRAY_LENGTH")] 83

def k16m0 : Method := { name := "<init>", desc := "()V", sig := { parameters := [], returnType := none }, accessFlags := 2, code := none }
/-- jdk/internal/util/ArraysSupport -/
def k16 : Class := { plain "jdk/internal/util/ArraysSupport" (some 0) with
  accessFlags := 33
  interfaces := #[]
  cf := some (fileOf pool16 21 #[] #[{ accessFlags := 2, nameIndex := 9, descriptorIndex := 19, attributes := #[] }] 33 16 #[] #[{ accessFlags := 24, nameIndex := 28, descriptorIndex := 29, attributes := #[] }, { accessFlags := 26, nameIndex := 38, descriptorIndex := 39, attributes := #[] }, { accessFlags := 25, nameIndex := 121, descriptorIndex := 25, attributes := #[] }, { accessFlags := 25, nameIndex := 131, descriptorIndex := 25, attributes := #[] }, { accessFlags := 25, nameIndex := 137, descriptorIndex := 25, attributes := #[] }, { accessFlags := 25, nameIndex := 143, descriptorIndex := 25, attributes := #[] }, { accessFlags := 25, nameIndex := 53, descriptorIndex := 25, attributes := #[] }, { accessFlags := 25, nameIndex := 24, descriptorIndex := 25, attributes := #[] }, { accessFlags := 25, nameIndex := 162, descriptorIndex := 25, attributes := #[] }, { accessFlags := 25, nameIndex := 187, descriptorIndex := 25, attributes := #[] }, { accessFlags := 26, nameIndex := 48, descriptorIndex := 25, attributes := #[] }, { accessFlags := 25, nameIndex := 277, descriptorIndex := 25, attributes := #[] }, { accessFlags := 25, nameIndex := 280, descriptorIndex := 25, attributes := #[] }, { accessFlags := 25, nameIndex := 282, descriptorIndex := 25, attributes := #[] }, { accessFlags := 25, nameIndex := 284, descriptorIndex := 25, attributes := #[] }, { accessFlags := 25, nameIndex := 286, descriptorIndex := 25, attributes := #[] }, { accessFlags := 25, nameIndex := 288, descriptorIndex := 25, attributes := #[] }, { accessFlags := 25, nameIndex := 290, descriptorIndex := 25, attributes := #[] }, { accessFlags := 25, nameIndex := 292, descriptorIndex := 25, attributes := #[] }, { accessFlags := 26, nameIndex := 108, descriptorIndex := 109, attributes := #[] }, { accessFlags := 25, nameIndex := 294, descriptorIndex := 25, attributes := #[] }])
  fields := #[{ name := "U", type := (.object "jdk/internal/misc/Unsafe"), accessFlags := 24, slot := 0, constantValue := 0 }, { name := "BIG_ENDIAN", type := .boolean, accessFlags := 26, slot := 1, constantValue := 0 }, { name := "LOG2_ARRAY_BOOLEAN_INDEX_SCALE", type := .int, accessFlags := 25, slot := 2, constantValue := 0 }, { name := "LOG2_ARRAY_BYTE_INDEX_SCALE", type := .int, accessFlags := 25, slot := 3, constantValue := 0 }, { name := "LOG2_ARRAY_CHAR_INDEX_SCALE", type := .int, accessFlags := 25, slot := 4, constantValue := 0 }, { name := "LOG2_ARRAY_SHORT_INDEX_SCALE", type := .int, accessFlags := 25, slot := 5, constantValue := 0 }, { name := "LOG2_ARRAY_INT_INDEX_SCALE", type := .int, accessFlags := 25, slot := 6, constantValue := 0 }, { name := "LOG2_ARRAY_LONG_INDEX_SCALE", type := .int, accessFlags := 25, slot := 7, constantValue := 0 }, { name := "LOG2_ARRAY_FLOAT_INDEX_SCALE", type := .int, accessFlags := 25, slot := 8, constantValue := 0 }, { name := "LOG2_ARRAY_DOUBLE_INDEX_SCALE", type := .int, accessFlags := 25, slot := 9, constantValue := 0 }, { name := "LOG2_BYTE_BIT_SIZE", type := .int, accessFlags := 26, slot := 10, constantValue := 0 }, { name := "T_BOOLEAN", type := .int, accessFlags := 25, slot := 11, constantValue := 0 }, { name := "T_CHAR", type := .int, accessFlags := 25, slot := 12, constantValue := 0 }, { name := "T_FLOAT", type := .int, accessFlags := 25, slot := 13, constantValue := 0 }, { name := "T_DOUBLE", type := .int, accessFlags := 25, slot := 14, constantValue := 0 }, { name := "T_BYTE", type := .int, accessFlags := 25, slot := 15, constantValue := 0 }, { name := "T_SHORT", type := .int, accessFlags := 25, slot := 16, constantValue := 0 }, { name := "T_INT", type := .int, accessFlags := 25, slot := 17, constantValue := 0 }, { name := "T_LONG", type := .int, accessFlags := 25, slot := 18, constantValue := 0 }, { name := "JLA", type := (.object "jdk/internal/access/JavaLangAccess"), accessFlags := 26, slot := 19, constantValue := 0 }, { name := "SOFT_MAX_ARRAY_LENGTH", type := .int, accessFlags := 25, slot := 20, constantValue := 0 }]
  methods := #[k16m0]
  instanceTypes := #[]
  staticTypes := #[(.object "jdk/internal/misc/Unsafe"), .boolean, .int, .int, .int, .int, .int, .int, .int, .int, .int, .int, .int, .int, .int, .int, .int, .int, .int, (.object "jdk/internal/access/JavaLangAccess"), .int]
  resolved := Array.replicate 378 none
  statics := none }

def pool17 : Array CpInfo := pool [(1, u "java/lang/Cloneable"), (0, .class_ 1), (0, u "java/lang/Object"), (0, .class_ 3)] 3

/-- java/lang/Cloneable -/
def k17 : Class := { plain "java/lang/Cloneable" (some 0) with
  accessFlags := 1537
  interfaces := #[]
  cf := some (fileOf pool17 2 #[] #[] 1537 4 #[] #[])
  fields := #[]
  methods := #[]
  instanceTypes := #[]
  staticTypes := #[]
  resolved := Array.replicate 8 none
  statics := none }

/-- the primitive byte -/
def k18 : Class := { plain "byte" none with kind := .primitive 'B', accessFlags := 0x411 }
/-- [B -/
def k19 : Class := { plain "[B" (some 0) with kind := .array 18 .byte, interfaces := #[17, 2], accessFlags := 1041 }

/-- the primitive char -/
def k20 : Class := { plain "char" none with kind := .primitive 'C', accessFlags := 0x411 }
/-- [C -/
def k21 : Class := { plain "[C" (some 0) with kind := .array 20 .char, interfaces := #[17, 2], accessFlags := 1041 }

/-- the primitive int -/
def k22 : Class := { plain "int" none with kind := .primitive 'I', accessFlags := 0x411 }
/-- [I -/
def k23 : Class := { plain "[I" (some 0) with kind := .array 22 .int, interfaces := #[17, 2], accessFlags := 1041 }

/-- [Ljava/lang/Integer; -/
def k24 : Class := { plain "[Ljava/lang/Integer;" (some 0) with kind := .array 13 (.object "java/lang/Integer"), interfaces := #[17, 2], accessFlags := 1041 }

def heap : Heap := #[{ cls := 7, slots := #[.long 0, .int 1, .null, .int 0, .null, .int 0, .int 0], vm := .statics 7 },
  { cls := 14, slots := #[.int 0, .int 127, .ref 3, .null, .int 0], vm := .statics 14 },
  { cls := 15, slots := #[.null, .null, .null], vm := .statics 15 },
  { cls := 24, slots := #[.ref 4, .ref 5, .ref 6, .ref 7, .ref 8, .ref 9, .ref 10, .ref 11, .ref 12, .ref 13, .ref 14, .ref 15, .ref 16, .ref 17, .ref 18, .ref 19, .ref 20, .ref 21, .ref 22, .ref 23, .ref 24, .ref 25, .ref 26, .ref 27, .ref 28, .ref 29, .ref 30, .ref 31, .ref 32, .ref 33, .ref 34, .ref 35, .ref 36, .ref 37, .ref 38, .ref 39, .ref 40, .ref 41, .ref 42, .ref 43, .ref 44, .ref 45, .ref 46, .ref 47, .ref 48, .ref 49, .ref 50, .ref 51, .ref 52, .ref 53, .ref 54, .ref 55, .ref 56, .ref 57, .ref 58, .ref 59, .ref 60, .ref 61, .ref 62, .ref 63, .ref 64, .ref 65, .ref 66, .ref 67, .ref 68, .ref 69, .ref 70, .ref 71, .ref 72, .ref 73, .ref 74, .ref 75, .ref 76, .ref 77, .ref 78, .ref 79, .ref 80, .ref 81, .ref 82, .ref 83, .ref 84, .ref 85, .ref 86, .ref 87, .ref 88, .ref 89, .ref 90, .ref 91, .ref 92, .ref 93, .ref 94, .ref 95, .ref 96, .ref 97, .ref 98, .ref 99, .ref 100, .ref 101, .ref 102, .ref 103, .ref 104, .ref 105, .ref 106, .ref 107, .ref 108, .ref 109, .ref 110, .ref 111, .ref 112, .ref 113, .ref 114, .ref 115, .ref 116, .ref 117, .ref 118, .ref 119, .ref 120, .ref 121, .ref 122, .ref 123, .ref 124, .ref 125, .ref 126, .ref 127, .ref 128, .ref 129, .ref 130, .ref 131, .ref 132, .ref 133, .ref 134, .ref 135, .ref 136, .ref 137, .ref 138, .ref 139, .ref 140, .ref 141, .ref 142, .ref 143, .ref 144, .ref 145, .ref 146, .ref 147, .ref 148, .ref 149, .ref 150, .ref 151, .ref 152, .ref 153, .ref 154, .ref 155, .ref 156, .ref 157, .ref 158, .ref 159, .ref 160, .ref 161, .ref 162, .ref 163, .ref 164, .ref 165, .ref 166, .ref 167, .ref 168, .ref 169, .ref 170, .ref 171, .ref 172, .ref 173, .ref 174, .ref 175, .ref 176, .ref 177, .ref 178, .ref 179, .ref 180, .ref 181, .ref 182, .ref 183, .ref 184, .ref 185, .ref 186, .ref 187, .ref 188, .ref 189, .ref 190, .ref 191, .ref 192, .ref 193, .ref 194, .ref 195, .ref 196, .ref 197, .ref 198, .ref 199, .ref 200, .ref 201, .ref 202, .ref 203, .ref 204, .ref 205, .ref 206, .ref 207, .ref 208, .ref 209, .ref 210, .ref 211, .ref 212, .ref 213, .ref 214, .ref 215, .ref 216, .ref 217, .ref 218, .ref 219, .ref 220, .ref 221, .ref 222, .ref 223, .ref 224, .ref 225, .ref 226, .ref 227, .ref 228, .ref 229, .ref 230, .ref 231, .ref 232, .ref 233, .ref 234, .ref 235, .ref 236, .ref 237, .ref 238, .ref 239, .ref 240, .ref 241, .ref 242, .ref 243, .ref 244, .ref 245, .ref 246, .ref 247, .ref 248, .ref 249, .ref 250, .ref 251, .ref 252, .ref 253, .ref 254, .ref 255, .ref 256, .ref 257, .ref 258, .ref 259], vm := .none },
  { cls := 13, slots := #[.int (-128)], vm := .none },
  { cls := 13, slots := #[.int (-127)], vm := .none },
  { cls := 13, slots := #[.int (-126)], vm := .none },
  { cls := 13, slots := #[.int (-125)], vm := .none },
  { cls := 13, slots := #[.int (-124)], vm := .none },
  { cls := 13, slots := #[.int (-123)], vm := .none },
  { cls := 13, slots := #[.int (-122)], vm := .none },
  { cls := 13, slots := #[.int (-121)], vm := .none },
  { cls := 13, slots := #[.int (-120)], vm := .none },
  { cls := 13, slots := #[.int (-119)], vm := .none },
  { cls := 13, slots := #[.int (-118)], vm := .none },
  { cls := 13, slots := #[.int (-117)], vm := .none },
  { cls := 13, slots := #[.int (-116)], vm := .none },
  { cls := 13, slots := #[.int (-115)], vm := .none },
  { cls := 13, slots := #[.int (-114)], vm := .none },
  { cls := 13, slots := #[.int (-113)], vm := .none },
  { cls := 13, slots := #[.int (-112)], vm := .none },
  { cls := 13, slots := #[.int (-111)], vm := .none },
  { cls := 13, slots := #[.int (-110)], vm := .none },
  { cls := 13, slots := #[.int (-109)], vm := .none },
  { cls := 13, slots := #[.int (-108)], vm := .none },
  { cls := 13, slots := #[.int (-107)], vm := .none },
  { cls := 13, slots := #[.int (-106)], vm := .none },
  { cls := 13, slots := #[.int (-105)], vm := .none },
  { cls := 13, slots := #[.int (-104)], vm := .none },
  { cls := 13, slots := #[.int (-103)], vm := .none },
  { cls := 13, slots := #[.int (-102)], vm := .none },
  { cls := 13, slots := #[.int (-101)], vm := .none },
  { cls := 13, slots := #[.int (-100)], vm := .none },
  { cls := 13, slots := #[.int (-99)], vm := .none },
  { cls := 13, slots := #[.int (-98)], vm := .none },
  { cls := 13, slots := #[.int (-97)], vm := .none },
  { cls := 13, slots := #[.int (-96)], vm := .none },
  { cls := 13, slots := #[.int (-95)], vm := .none },
  { cls := 13, slots := #[.int (-94)], vm := .none },
  { cls := 13, slots := #[.int (-93)], vm := .none },
  { cls := 13, slots := #[.int (-92)], vm := .none },
  { cls := 13, slots := #[.int (-91)], vm := .none },
  { cls := 13, slots := #[.int (-90)], vm := .none },
  { cls := 13, slots := #[.int (-89)], vm := .none },
  { cls := 13, slots := #[.int (-88)], vm := .none },
  { cls := 13, slots := #[.int (-87)], vm := .none },
  { cls := 13, slots := #[.int (-86)], vm := .none },
  { cls := 13, slots := #[.int (-85)], vm := .none },
  { cls := 13, slots := #[.int (-84)], vm := .none },
  { cls := 13, slots := #[.int (-83)], vm := .none },
  { cls := 13, slots := #[.int (-82)], vm := .none },
  { cls := 13, slots := #[.int (-81)], vm := .none },
  { cls := 13, slots := #[.int (-80)], vm := .none },
  { cls := 13, slots := #[.int (-79)], vm := .none },
  { cls := 13, slots := #[.int (-78)], vm := .none },
  { cls := 13, slots := #[.int (-77)], vm := .none },
  { cls := 13, slots := #[.int (-76)], vm := .none },
  { cls := 13, slots := #[.int (-75)], vm := .none },
  { cls := 13, slots := #[.int (-74)], vm := .none },
  { cls := 13, slots := #[.int (-73)], vm := .none },
  { cls := 13, slots := #[.int (-72)], vm := .none },
  { cls := 13, slots := #[.int (-71)], vm := .none },
  { cls := 13, slots := #[.int (-70)], vm := .none },
  { cls := 13, slots := #[.int (-69)], vm := .none },
  { cls := 13, slots := #[.int (-68)], vm := .none },
  { cls := 13, slots := #[.int (-67)], vm := .none },
  { cls := 13, slots := #[.int (-66)], vm := .none },
  { cls := 13, slots := #[.int (-65)], vm := .none },
  { cls := 13, slots := #[.int (-64)], vm := .none },
  { cls := 13, slots := #[.int (-63)], vm := .none },
  { cls := 13, slots := #[.int (-62)], vm := .none },
  { cls := 13, slots := #[.int (-61)], vm := .none },
  { cls := 13, slots := #[.int (-60)], vm := .none },
  { cls := 13, slots := #[.int (-59)], vm := .none },
  { cls := 13, slots := #[.int (-58)], vm := .none },
  { cls := 13, slots := #[.int (-57)], vm := .none },
  { cls := 13, slots := #[.int (-56)], vm := .none },
  { cls := 13, slots := #[.int (-55)], vm := .none },
  { cls := 13, slots := #[.int (-54)], vm := .none },
  { cls := 13, slots := #[.int (-53)], vm := .none },
  { cls := 13, slots := #[.int (-52)], vm := .none },
  { cls := 13, slots := #[.int (-51)], vm := .none },
  { cls := 13, slots := #[.int (-50)], vm := .none },
  { cls := 13, slots := #[.int (-49)], vm := .none },
  { cls := 13, slots := #[.int (-48)], vm := .none },
  { cls := 13, slots := #[.int (-47)], vm := .none },
  { cls := 13, slots := #[.int (-46)], vm := .none },
  { cls := 13, slots := #[.int (-45)], vm := .none },
  { cls := 13, slots := #[.int (-44)], vm := .none },
  { cls := 13, slots := #[.int (-43)], vm := .none },
  { cls := 13, slots := #[.int (-42)], vm := .none },
  { cls := 13, slots := #[.int (-41)], vm := .none },
  { cls := 13, slots := #[.int (-40)], vm := .none },
  { cls := 13, slots := #[.int (-39)], vm := .none },
  { cls := 13, slots := #[.int (-38)], vm := .none },
  { cls := 13, slots := #[.int (-37)], vm := .none },
  { cls := 13, slots := #[.int (-36)], vm := .none },
  { cls := 13, slots := #[.int (-35)], vm := .none },
  { cls := 13, slots := #[.int (-34)], vm := .none },
  { cls := 13, slots := #[.int (-33)], vm := .none },
  { cls := 13, slots := #[.int (-32)], vm := .none },
  { cls := 13, slots := #[.int (-31)], vm := .none },
  { cls := 13, slots := #[.int (-30)], vm := .none },
  { cls := 13, slots := #[.int (-29)], vm := .none },
  { cls := 13, slots := #[.int (-28)], vm := .none },
  { cls := 13, slots := #[.int (-27)], vm := .none },
  { cls := 13, slots := #[.int (-26)], vm := .none },
  { cls := 13, slots := #[.int (-25)], vm := .none },
  { cls := 13, slots := #[.int (-24)], vm := .none },
  { cls := 13, slots := #[.int (-23)], vm := .none },
  { cls := 13, slots := #[.int (-22)], vm := .none },
  { cls := 13, slots := #[.int (-21)], vm := .none },
  { cls := 13, slots := #[.int (-20)], vm := .none },
  { cls := 13, slots := #[.int (-19)], vm := .none },
  { cls := 13, slots := #[.int (-18)], vm := .none },
  { cls := 13, slots := #[.int (-17)], vm := .none },
  { cls := 13, slots := #[.int (-16)], vm := .none },
  { cls := 13, slots := #[.int (-15)], vm := .none },
  { cls := 13, slots := #[.int (-14)], vm := .none },
  { cls := 13, slots := #[.int (-13)], vm := .none },
  { cls := 13, slots := #[.int (-12)], vm := .none },
  { cls := 13, slots := #[.int (-11)], vm := .none },
  { cls := 13, slots := #[.int (-10)], vm := .none },
  { cls := 13, slots := #[.int (-9)], vm := .none },
  { cls := 13, slots := #[.int (-8)], vm := .none },
  { cls := 13, slots := #[.int (-7)], vm := .none },
  { cls := 13, slots := #[.int (-6)], vm := .none },
  { cls := 13, slots := #[.int (-5)], vm := .none },
  { cls := 13, slots := #[.int (-4)], vm := .none },
  { cls := 13, slots := #[.int (-3)], vm := .none },
  { cls := 13, slots := #[.int (-2)], vm := .none },
  { cls := 13, slots := #[.int (-1)], vm := .none },
  { cls := 13, slots := #[.int (0)], vm := .none },
  { cls := 13, slots := #[.int (1)], vm := .none },
  { cls := 13, slots := #[.int (2)], vm := .none },
  { cls := 13, slots := #[.int (3)], vm := .none },
  { cls := 13, slots := #[.int (4)], vm := .none },
  { cls := 13, slots := #[.int (5)], vm := .none },
  { cls := 13, slots := #[.int (6)], vm := .none },
  { cls := 13, slots := #[.int (7)], vm := .none },
  { cls := 13, slots := #[.int (8)], vm := .none },
  { cls := 13, slots := #[.int (9)], vm := .none },
  { cls := 13, slots := #[.int (10)], vm := .none },
  { cls := 13, slots := #[.int (11)], vm := .none },
  { cls := 13, slots := #[.int (12)], vm := .none },
  { cls := 13, slots := #[.int (13)], vm := .none },
  { cls := 13, slots := #[.int (14)], vm := .none },
  { cls := 13, slots := #[.int (15)], vm := .none },
  { cls := 13, slots := #[.int (16)], vm := .none },
  { cls := 13, slots := #[.int (17)], vm := .none },
  { cls := 13, slots := #[.int (18)], vm := .none },
  { cls := 13, slots := #[.int (19)], vm := .none },
  { cls := 13, slots := #[.int (20)], vm := .none },
  { cls := 13, slots := #[.int (21)], vm := .none },
  { cls := 13, slots := #[.int (22)], vm := .none },
  { cls := 13, slots := #[.int (23)], vm := .none },
  { cls := 13, slots := #[.int (24)], vm := .none },
  { cls := 13, slots := #[.int (25)], vm := .none },
  { cls := 13, slots := #[.int (26)], vm := .none },
  { cls := 13, slots := #[.int (27)], vm := .none },
  { cls := 13, slots := #[.int (28)], vm := .none },
  { cls := 13, slots := #[.int (29)], vm := .none },
  { cls := 13, slots := #[.int (30)], vm := .none },
  { cls := 13, slots := #[.int (31)], vm := .none },
  { cls := 13, slots := #[.int (32)], vm := .none },
  { cls := 13, slots := #[.int (33)], vm := .none },
  { cls := 13, slots := #[.int (34)], vm := .none },
  { cls := 13, slots := #[.int (35)], vm := .none },
  { cls := 13, slots := #[.int (36)], vm := .none },
  { cls := 13, slots := #[.int (37)], vm := .none },
  { cls := 13, slots := #[.int (38)], vm := .none },
  { cls := 13, slots := #[.int (39)], vm := .none },
  { cls := 13, slots := #[.int (40)], vm := .none },
  { cls := 13, slots := #[.int (41)], vm := .none },
  { cls := 13, slots := #[.int (42)], vm := .none },
  { cls := 13, slots := #[.int (43)], vm := .none },
  { cls := 13, slots := #[.int (44)], vm := .none },
  { cls := 13, slots := #[.int (45)], vm := .none },
  { cls := 13, slots := #[.int (46)], vm := .none },
  { cls := 13, slots := #[.int (47)], vm := .none },
  { cls := 13, slots := #[.int (48)], vm := .none },
  { cls := 13, slots := #[.int (49)], vm := .none },
  { cls := 13, slots := #[.int (50)], vm := .none },
  { cls := 13, slots := #[.int (51)], vm := .none },
  { cls := 13, slots := #[.int (52)], vm := .none },
  { cls := 13, slots := #[.int (53)], vm := .none },
  { cls := 13, slots := #[.int (54)], vm := .none },
  { cls := 13, slots := #[.int (55)], vm := .none },
  { cls := 13, slots := #[.int (56)], vm := .none },
  { cls := 13, slots := #[.int (57)], vm := .none },
  { cls := 13, slots := #[.int (58)], vm := .none },
  { cls := 13, slots := #[.int (59)], vm := .none },
  { cls := 13, slots := #[.int (60)], vm := .none },
  { cls := 13, slots := #[.int (61)], vm := .none },
  { cls := 13, slots := #[.int (62)], vm := .none },
  { cls := 13, slots := #[.int (63)], vm := .none },
  { cls := 13, slots := #[.int (64)], vm := .none },
  { cls := 13, slots := #[.int (65)], vm := .none },
  { cls := 13, slots := #[.int (66)], vm := .none },
  { cls := 13, slots := #[.int (67)], vm := .none },
  { cls := 13, slots := #[.int (68)], vm := .none },
  { cls := 13, slots := #[.int (69)], vm := .none },
  { cls := 13, slots := #[.int (70)], vm := .none },
  { cls := 13, slots := #[.int (71)], vm := .none },
  { cls := 13, slots := #[.int (72)], vm := .none },
  { cls := 13, slots := #[.int (73)], vm := .none },
  { cls := 13, slots := #[.int (74)], vm := .none },
  { cls := 13, slots := #[.int (75)], vm := .none },
  { cls := 13, slots := #[.int (76)], vm := .none },
  { cls := 13, slots := #[.int (77)], vm := .none },
  { cls := 13, slots := #[.int (78)], vm := .none },
  { cls := 13, slots := #[.int (79)], vm := .none },
  { cls := 13, slots := #[.int (80)], vm := .none },
  { cls := 13, slots := #[.int (81)], vm := .none },
  { cls := 13, slots := #[.int (82)], vm := .none },
  { cls := 13, slots := #[.int (83)], vm := .none },
  { cls := 13, slots := #[.int (84)], vm := .none },
  { cls := 13, slots := #[.int (85)], vm := .none },
  { cls := 13, slots := #[.int (86)], vm := .none },
  { cls := 13, slots := #[.int (87)], vm := .none },
  { cls := 13, slots := #[.int (88)], vm := .none },
  { cls := 13, slots := #[.int (89)], vm := .none },
  { cls := 13, slots := #[.int (90)], vm := .none },
  { cls := 13, slots := #[.int (91)], vm := .none },
  { cls := 13, slots := #[.int (92)], vm := .none },
  { cls := 13, slots := #[.int (93)], vm := .none },
  { cls := 13, slots := #[.int (94)], vm := .none },
  { cls := 13, slots := #[.int (95)], vm := .none },
  { cls := 13, slots := #[.int (96)], vm := .none },
  { cls := 13, slots := #[.int (97)], vm := .none },
  { cls := 13, slots := #[.int (98)], vm := .none },
  { cls := 13, slots := #[.int (99)], vm := .none },
  { cls := 13, slots := #[.int (100)], vm := .none },
  { cls := 13, slots := #[.int (101)], vm := .none },
  { cls := 13, slots := #[.int (102)], vm := .none },
  { cls := 13, slots := #[.int (103)], vm := .none },
  { cls := 13, slots := #[.int (104)], vm := .none },
  { cls := 13, slots := #[.int (105)], vm := .none },
  { cls := 13, slots := #[.int (106)], vm := .none },
  { cls := 13, slots := #[.int (107)], vm := .none },
  { cls := 13, slots := #[.int (108)], vm := .none },
  { cls := 13, slots := #[.int (109)], vm := .none },
  { cls := 13, slots := #[.int (110)], vm := .none },
  { cls := 13, slots := #[.int (111)], vm := .none },
  { cls := 13, slots := #[.int (112)], vm := .none },
  { cls := 13, slots := #[.int (113)], vm := .none },
  { cls := 13, slots := #[.int (114)], vm := .none },
  { cls := 13, slots := #[.int (115)], vm := .none },
  { cls := 13, slots := #[.int (116)], vm := .none },
  { cls := 13, slots := #[.int (117)], vm := .none },
  { cls := 13, slots := #[.int (118)], vm := .none },
  { cls := 13, slots := #[.int (119)], vm := .none },
  { cls := 13, slots := #[.int (120)], vm := .none },
  { cls := 13, slots := #[.int (121)], vm := .none },
  { cls := 13, slots := #[.int (122)], vm := .none },
  { cls := 13, slots := #[.int (123)], vm := .none },
  { cls := 13, slots := #[.int (124)], vm := .none },
  { cls := 13, slots := #[.int (125)], vm := .none },
  { cls := 13, slots := #[.int (126)], vm := .none },
  { cls := 13, slots := #[.int (127)], vm := .none }]
def classes : Array Class := #[k0, k1, k2, k3, k4, k5, k6, k7, k8, k9, k10, k11, k12, k13, k14, k15, k16, k17, k18, k19, k20, k21, k22, k23, k24]
def interned : List (Array UInt16 × Addr) := []
def slotsUsed : Nat := 527
def theMethod : MethodId := ⟨1, 2⟩
def args0 : Array Value := #[.int 0, .int 0, .int 0, .int 0, .int 0, .int 0]
def aboutOver (below : List Frame) : State where
  vm := { classes := classes, interned := interned.toArray }
  heap := heap
  slotsUsed := slotsUsed
  threads := #[{ frames := .invoking theMethod args0 :: below }]
def below0 : List Frame := [.native { method := ⟨0, 0⟩, args := #[] }]
def about1 : State := aboutOver below0
def p0 : Program := .bare "" "" ""
def e0 : Env := launch0.env 0 0 0
theorem w_frames : about1.frames = Frame.invoking theMethod args0 :: below0 := rfl
set_option maxRecDepth 65536 in
theorem w_args : argsFit about1.vm theMethod args0 = true := by decide +kernel
set_option maxRecDepth 65536 in
theorem w_heap : heapFits about1 = true := by decide +kernel
set_option maxRecDepth 65536 in
theorem w_runnable : about1.curStatus? = some .runnable := by decide +kernel
set_option maxRecDepth 65536 in
theorem w_alone : about1.alone = true := by decide +kernel
set_option maxRecDepth 65536 in
theorem w_named : about1.methodNamed? x = some theMethod := by decide +kernel
set_option maxRecDepth 65536 in
theorem w_hears : about1.hears theMethod below0 = true := by decide +kernel
set_option maxRecDepth 65536 in
theorem w_ripe : about1.ripe theMethod args0 below0 = true := by decide +kernel
theorem w_running : about1.status = .running := rfl
set_option maxRecDepth 65536 in
theorem w_room : about1.hasRoom e0.platform room_1 = true :=
  launch0.hasRoom_least _ room_1 (by decide +kernel) (by decide +kernel) (by decide +kernel) (by decide +kernel) (by decide +kernel) (by decide +kernel)
theorem allAtoms_all (ts : List Jvm.Cond) (a : Array Jvm.Value) (st : Jvm.State) : (allAtoms ts).before a st = ts.all (fun c => c.before a st) := by
  induction ts with
  | nil => rfl
  | cons c t ih =>
    show (Jvm.Cond.and c (allAtoms t)).before a st = _
    rw [Jvm.Cond.before_and, ih, List.all_cons]
def words1 : List Jvm.Cond := Jvm.Cond.code x code maxLocals ret :: tables_1
/-- a 'code' word, met by the world's own term for the bytes: nothing is compared byte by byte -/
theorem code_word {y : MethodName} {bytes : ByteArray} {mx : Nat} {rt : Option FieldType} {a : Array Value} {s : State} {m : MethodId} {meth : Method} {c : Code} (h1 : s.methodNamed? y = some m) (h2 : s.vm.method? m = some meth) (h3 : meth.code = some c) (h4 : c.code = bytes)
    (h5 : (c.maxLocals == mx && c.exceptionTable.isEmpty && decide (c.maxStack ≤ mostOperands) && decide (meth.sig.returnType = rt) && !meth.locks && decide (parseMethodDescriptor y.desc = some meth.sig)) = true) : (Jvm.Cond.code y bytes mx rt).before a s = true := by
  simp only [Bool.and_eq_true, beq_iff_eq, Bool.not_eq_true', decide_eq_true_eq] at h5
  obtain ⟨⟨⟨⟨⟨g1, g2⟩, g3⟩, g4⟩, g5⟩, g6⟩ := h5
  simp [Cond.before, Cond.holds, Cond.value, h1, h2, h3, h4, g1, g2, g3, g4, g5, g6]
def isCode : Jvm.Cond → Bool
  | .code _ _ _ _ => true
  | _ => false
theorem all_split {L : List Jvm.Cond} {P : Jvm.Cond → Bool} (h1 : L.all (fun c => isCode c || P c) = true) (h2 : ∀ c ∈ L.filter isCode, P c = true) : L.all P = true := by
  refine List.all_eq_true.mpr fun c hc => ?_
  have h := List.all_eq_true.mp h1 c hc
  rcases Bool.eq_false_or_eq_true (isCode c) with hi | hi
  · exact h2 c (List.mem_filter.mpr ⟨hc, hi⟩)
  · simpa [hi] using h
set_option maxRecDepth 65536 in
theorem w_c0 : (Jvm.Cond.code x code maxLocals ret).before args0 about1 = true := code_word (m := ⟨1, 2⟩) (meth := k1m2) (c := k1c2) (by decide +kernel) rfl rfl rfl (by decide +kernel)
set_option maxRecDepth 65536 in
theorem w_c1 : (Jvm.Cond.code ({ cls := "com/example/tagwright/tagwright/diag/DiagnosticEqualsPinLaw", name := "mk", desc := "(I)Ljava/lang/String;" } : Jvm.MethodName) method_2_code (5 : Nat) (Option.some (Jvm.ClassFile.FieldType.object "java/lang/String"))).before args0 about1 = true := code_word (m := ⟨1, 1⟩) (meth := k1m1) (c := k1c1) (by decide +kernel) rfl rfl rfl (by decide +kernel)
set_option maxRecDepth 65536 in
theorem w_c2 : (Jvm.Cond.code ({ cls := "java/lang/String", name := "<init>", desc := "([C)V" } : Jvm.MethodName) jdk_42_method_3_code (2 : Nat) (Option.none : Option Jvm.ClassFile.FieldType)).before args0 about1 = true := code_word (m := ⟨7, 1⟩) (meth := k7m1) (c := k7c1) (by decide +kernel) rfl rfl rfl (by decide +kernel)
set_option maxRecDepth 65536 in
theorem w_c3 : (Jvm.Cond.code ({ cls := "java/lang/String", name := "<init>", desc := "([CIILjava/lang/Void;)V" } : Jvm.MethodName) jdk_42_method_149_code (6 : Nat) (Option.none : Option Jvm.ClassFile.FieldType)).before args0 about1 = true := code_word (m := ⟨7, 3⟩) (meth := k7m3) (c := k7c3) (by decide +kernel) rfl rfl rfl (by decide +kernel)
set_option maxRecDepth 65536 in
theorem w_c4 : (Jvm.Cond.code ({ cls := "java/lang/Object", name := "<init>", desc := "()V" } : Jvm.MethodName) object_method_1_code (1 : Nat) (Option.none : Option Jvm.ClassFile.FieldType)).before args0 about1 = true := code_word (m := ⟨0, 0⟩) (meth := k0m0) (c := k0c0) (by decide +kernel) rfl rfl rfl (by decide +kernel)
set_option maxRecDepth 65536 in
theorem w_c5 : (Jvm.Cond.code ({ cls := "java/lang/StringUTF16", name := "compress", desc := "([CII)[B" } : Jvm.MethodName) jdk_52_method_16_code (6 : Nat) (Option.some (Jvm.ClassFile.FieldType.array Jvm.ClassFile.FieldType.byte))).before args0 about1 = true := code_word (m := ⟨8, 2⟩) (meth := k8m2) (c := k8c2) (by decide +kernel) rfl rfl rfl (by decide +kernel)
set_option maxRecDepth 65536 in
theorem w_c6 : (Jvm.Cond.code ({ cls := "java/lang/StringUTF16", name := "compress", desc := "([CI[BII)I" } : Jvm.MethodName) jdk_52_method_21_code (7 : Nat) (Option.some Jvm.ClassFile.FieldType.int)).before args0 about1 = true := code_word (m := ⟨8, 3⟩) (meth := k8m3) (c := k8c3) (by decide +kernel) rfl rfl rfl (by decide +kernel)
set_option maxRecDepth 65536 in
theorem w_c7 : (Jvm.Cond.code ({ cls := "java/lang/StringUTF16", name := "coderFromArrayLen", desc := "([BI)B" } : Jvm.MethodName) jdk_52_method_15_code (2 : Nat) (Option.some Jvm.ClassFile.FieldType.byte)).before args0 about1 = true := code_word (m := ⟨8, 1⟩) (meth := k8m1) (c := k8c1) (by decide +kernel) rfl rfl rfl (by decide +kernel)
set_option maxRecDepth 65536 in
theorem w_c8 : (Jvm.Cond.code ({ cls := "com/example/tagwright/tagwright/diag/Diagnostic", name := "<init>", desc := "(Ljava/lang/String;IILjava/lang/String;)V" } : Jvm.MethodName) prog_1_method_1_code (5 : Nat) (Option.none : Option Jvm.ClassFile.FieldType)).before args0 about1 = true := code_word (m := ⟨9, 0⟩) (meth := k9m0) (c := k9c0) (by decide +kernel) rfl rfl rfl (by decide +kernel)
set_option maxRecDepth 65536 in
theorem w_c9 : (Jvm.Cond.code ({ cls := "java/util/Objects", name := "requireNonNull", desc := "(Ljava/lang/Object;Ljava/lang/String;)Ljava/lang/Object;" } : Jvm.MethodName) jdk_31_method_11_code (2 : Nat) (Option.some (Jvm.ClassFile.FieldType.object "java/lang/Object"))).before args0 about1 = true := code_word (m := ⟨10, 1⟩) (meth := k10m1) (c := k10c1) (by decide +kernel) rfl rfl rfl (by decide +kernel)
set_option maxRecDepth 65536 in
theorem w_c10 : (Jvm.Cond.code ({ cls := "java/lang/String", name := "equals", desc := "(Ljava/lang/Object;)Z" } : Jvm.MethodName) jdk_42_method_66_code (3 : Nat) (Option.some Jvm.ClassFile.FieldType.boolean)).before args0 about1 = true := code_word (m := ⟨7, 2⟩) (meth := k7m2) (c := k7c2) (by decide +kernel) rfl rfl rfl (by decide +kernel)
set_option maxRecDepth 65536 in
theorem w_c11 : (Jvm.Cond.code ({ cls := "java/lang/StringLatin1", name := "equals", desc := "([B[B)Z" } : Jvm.MethodName) jdk_43_method_13_code (3 : Nat) (Option.some Jvm.ClassFile.FieldType.boolean)).before args0 about1 = true := code_word (m := ⟨11, 1⟩) (meth := k11m1) (c := k11c1) (by decide +kernel) rfl rfl rfl (by decide +kernel)
set_option maxRecDepth 65536 in
theorem w_c12 : (Jvm.Cond.code ({ cls := "com/example/tagwright/tagwright/diag/Diagnostic", name := "equals", desc := "(Ljava/lang/Object;)Z" } : Jvm.MethodName) prog_1_method_6_code (3 : Nat) (Option.some Jvm.ClassFile.FieldType.boolean)).before args0 about1 = true := code_word (m := ⟨9, 1⟩) (meth := k9m1) (c := k9c1) (by decide +kernel) rfl rfl rfl (by decide +kernel)
set_option maxRecDepth 65536 in
theorem w_c13 : (Jvm.Cond.code ({ cls := "java/lang/Integer", name := "valueOf", desc := "(I)Ljava/lang/Integer;" } : Jvm.MethodName) jdk_33_method_22_code (1 : Nat) (Option.some (Jvm.ClassFile.FieldType.object "java/lang/Integer"))).before args0 about1 = true := code_word (m := ⟨13, 0⟩) (meth := k13m0) (c := k13c0) (by decide +kernel) rfl rfl rfl (by decide +kernel)
set_option maxRecDepth 65536 in
theorem w_c14 : (Jvm.Cond.code ({ cls := "java/lang/Integer", name := "<init>", desc := "(I)V" } : Jvm.MethodName) jdk_33_method_23_code (2 : Nat) (Option.none : Option Jvm.ClassFile.FieldType)).before args0 about1 = true := code_word (m := ⟨13, 1⟩) (meth := k13m1) (c := k13c1) (by decide +kernel) rfl rfl rfl (by decide +kernel)
set_option maxRecDepth 65536 in
theorem w_c15 : (Jvm.Cond.code ({ cls := "java/lang/Number", name := "<init>", desc := "()V" } : Jvm.MethodName) jdk_18_method_1_code (1 : Nat) (Option.none : Option Jvm.ClassFile.FieldType)).before args0 about1 = true := code_word (m := ⟨12, 0⟩) (meth := k12m0) (c := k12c0) (by decide +kernel) rfl rfl rfl (by decide +kernel)
def codes1 : List Jvm.Cond := [Jvm.Cond.code x code maxLocals ret, Jvm.Cond.code ({ cls := "com/example/tagwright/tagwright/diag/DiagnosticEqualsPinLaw", name := "mk", desc := "(I)Ljava/lang/String;" } : Jvm.MethodName) method_2_code (5 : Nat) (Option.some (Jvm.ClassFile.FieldType.object "java/lang/String")), Jvm.Cond.code ({ cls := "java/lang/String", name := "<init>", desc := "([C)V" } : Jvm.MethodName) jdk_42_method_3_code (2 : Nat) (Option.none : Option Jvm.ClassFile.FieldType), Jvm.Cond.code ({ cls := "java/lang/String", name := "<init>", desc := "([CIILjava/lang/Void;)V" } : Jvm.MethodName) jdk_42_method_149_code (6 : Nat) (Option.none : Option Jvm.ClassFile.FieldType), Jvm.Cond.code ({ cls := "java/lang/Object", name := "<init>", desc := "()V" } : Jvm.MethodName) object_method_1_code (1 : Nat) (Option.none : Option Jvm.ClassFile.FieldType), Jvm.Cond.code ({ cls := "java/lang/StringUTF16", name := "compress", desc := "([CII)[B" } : Jvm.MethodName) jdk_52_method_16_code (6 : Nat) (Option.some (Jvm.ClassFile.FieldType.array Jvm.ClassFile.FieldType.byte)), Jvm.Cond.code ({ cls := "java/lang/StringUTF16", name := "compress", desc := "([CI[BII)I" } : Jvm.MethodName) jdk_52_method_21_code (7 : Nat) (Option.some Jvm.ClassFile.FieldType.int), Jvm.Cond.code ({ cls := "java/lang/StringUTF16", name := "coderFromArrayLen", desc := "([BI)B" } : Jvm.MethodName) jdk_52_method_15_code (2 : Nat) (Option.some Jvm.ClassFile.FieldType.byte), Jvm.Cond.code ({ cls := "com/example/tagwright/tagwright/diag/Diagnostic", name := "<init>", desc := "(Ljava/lang/String;IILjava/lang/String;)V" } : Jvm.MethodName) prog_1_method_1_code (5 : Nat) (Option.none : Option Jvm.ClassFile.FieldType), Jvm.Cond.code ({ cls := "java/util/Objects", name := "requireNonNull", desc := "(Ljava/lang/Object;Ljava/lang/String;)Ljava/lang/Object;" } : Jvm.MethodName) jdk_31_method_11_code (2 : Nat) (Option.some (Jvm.ClassFile.FieldType.object "java/lang/Object")), Jvm.Cond.code ({ cls := "java/lang/String", name := "equals", desc := "(Ljava/lang/Object;)Z" } : Jvm.MethodName) jdk_42_method_66_code (3 : Nat) (Option.some Jvm.ClassFile.FieldType.boolean), Jvm.Cond.code ({ cls := "java/lang/StringLatin1", name := "equals", desc := "([B[B)Z" } : Jvm.MethodName) jdk_43_method_13_code (3 : Nat) (Option.some Jvm.ClassFile.FieldType.boolean), Jvm.Cond.code ({ cls := "com/example/tagwright/tagwright/diag/Diagnostic", name := "equals", desc := "(Ljava/lang/Object;)Z" } : Jvm.MethodName) prog_1_method_6_code (3 : Nat) (Option.some Jvm.ClassFile.FieldType.boolean), Jvm.Cond.code ({ cls := "java/lang/Integer", name := "valueOf", desc := "(I)Ljava/lang/Integer;" } : Jvm.MethodName) jdk_33_method_22_code (1 : Nat) (Option.some (Jvm.ClassFile.FieldType.object "java/lang/Integer")), Jvm.Cond.code ({ cls := "java/lang/Integer", name := "<init>", desc := "(I)V" } : Jvm.MethodName) jdk_33_method_23_code (2 : Nat) (Option.none : Option Jvm.ClassFile.FieldType), Jvm.Cond.code ({ cls := "java/lang/Number", name := "<init>", desc := "()V" } : Jvm.MethodName) jdk_18_method_1_code (1 : Nat) (Option.none : Option Jvm.ClassFile.FieldType)]
set_option maxRecDepth 65536 in
theorem codes_eq : words1.filter isCode = codes1 := rfl
theorem w_codes : ∀ c ∈ words1.filter isCode, c.before args0 about1 = true := by
  rw [codes_eq]
  intro c hc
  simp only [codes1, List.mem_cons, List.not_mem_nil, or_false] at hc
  rcases hc with rfl | rfl | rfl | rfl | rfl | rfl | rfl | rfl | rfl | rfl | rfl | rfl | rfl | rfl | rfl | rfl
  · exact w_c0
  · exact w_c1
  · exact w_c2
  · exact w_c3
  · exact w_c4
  · exact w_c5
  · exact w_c6
  · exact w_c7
  · exact w_c8
  · exact w_c9
  · exact w_c10
  · exact w_c11
  · exact w_c12
  · exact w_c13
  · exact w_c14
  · exact w_c15
set_option maxRecDepth 65536 in
theorem w_t1 : (words1.take 24).all (fun c => isCode c || c.before args0 about1) = true := by decide +kernel
set_option maxRecDepth 65536 in
theorem w_t2 : ((words1.drop 24).take 24).all (fun c => isCode c || c.before args0 about1) = true := by decide +kernel
set_option maxRecDepth 65536 in
theorem w_t3 : (((words1.drop 24).drop 24).take 24).all (fun c => isCode c || c.before args0 about1) = true := by decide +kernel
set_option maxRecDepth 65536 in
theorem w_t4 : ((((words1.drop 24).drop 24).drop 24).take 24).all (fun c => isCode c || c.before args0 about1) = true := by decide +kernel
set_option maxRecDepth 65536 in
theorem w_t5 : ((((words1.drop 24).drop 24).drop 24).drop 24).all (fun c => isCode c || c.before args0 about1) = true := by decide +kernel
theorem w_tables : (allAtoms (Jvm.Cond.code x code maxLocals ret :: tables_1)).before args0 about1 = true := by
  rw [allAtoms_all]
  show words1.all (fun c => c.before args0 about1) = true
  refine all_split ?_ w_codes
  rw [← List.take_append_drop 24 words1, List.all_append, w_t1, ← List.take_append_drop 24 (words1.drop 24), List.all_append, w_t2, ← List.take_append_drop 24 ((words1.drop 24).drop 24), List.all_append, w_t3, ← List.take_append_drop 24 (((words1.drop 24).drop 24).drop 24), List.all_append, w_t4, w_t5]
  rfl
set_option maxRecDepth 65536 in
theorem w_rest : rest_1_c.before args0 about1 = true := by decide +kernel
set_option maxRecDepth 65536 in
theorem w_case : (Jvm.Cond.and given_1 narrow_1).before args0 about1 = true := by decide +kernel
set_option maxRecDepth 65536 in
theorem w_consts : constsHeld consts_1 about1 := Jvm.Lit.constsHeldB_iff.mp (by decide +kernel)
theorem w_applies : (headSpec (Jvm.Cond.code x code maxLocals ret :: tables_1) room_1).applies x e0.platform about1 = true :=
  (Spec.applies_iff w_frames).mpr ⟨w_running, w_runnable, w_alone, w_named, w_hears, w_ripe, w_room, w_tables⟩
theorem atStart : AtStart classFile x code maxLocals ret World_1 tables_1 room_1 Calls_1 rest_1 Pre_1 launch0 p0 e0 about1 theMethod args0 below0 :=
  ⟨lists_1, trivial, launch0.admits_env _ _ _, launch0.least_env, fairChoices_fair.cas, fairChoices_fair.clock, w_frames, w_args, w_heap, w_applies, ⟨w_consts, trivial⟩, w_rest, w_case⟩
end start1
theorem witness_1 : WitnessClaimed_1 := ⟨start1.p0, start1.e0, start1.about1, start1.theMethod, start1.args0, start1.below0, start1.atStart⟩
end Jvm.Pilot.@@N@@
