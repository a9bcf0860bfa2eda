import JvmDerived
import JvmDerived.Pilot.@@N@@Statement
import JvmDerived.Pilot.@@N@@Code
set_option linter.unusedVariables false
set_option linter.unusedSimpArgs false
/- laws to paste: Road.backV (cut by pick.py; bodies as the Statement names them) -/
namespace Jvm.Pilot.@@N@@
namespace StrChars
open Jvm Sem ClassFile Op Lib Jvm.Stand Jvm.Free.XT Jvm.Free.ALB Jvm.Free.JM Jvm.Free
open Jvm.Lib.Cold (StaticIs)
/-- a char array whose places are chars -/
def Ch (a : Addr) (A : Cell) (U : State) : Prop := Arr .char a A U ∧ Typed .char A
theorem Ch.mv {a : Addr} {A : Cell} {U U' : State} (h : Ch a A U) (hal : U.vm.Alike U'.vm) (hh : U'.heap = U.heap) : Ch a A U' := ⟨h.1.mv hal hh, h.2⟩
theorem Ch.keep {a : Addr} {A : Cell} {U U' : State} (h : Ch a A U) (hal : U.vm.Alike U'.vm) (hk : U'.heap[a]? = some A) : Ch a A U' := ⟨h.1.keep hal hk, h.2⟩
/-- what place i of a char[]'s cell holds -/
def cv (A : Cell) (i : Nat) : Int32 := match A.slots[i]? with | some (.int x) => x | _ => 0
theorem Ch.get {a : Addr} {A : Cell} {U : State} (h : Ch a A U) {i : Nat} (hi : i < A.slots.size) : A.slots[i]? = some (.int (cv A i)) := by
  have e := Array.getElem?_eq_getElem hi
  have f := h.2 i _ e
  unfold cv; rw [e]
  generalize A.slots[i] = v at f
  cases v <;> simp [fits] at f ⊢
/-- the byte that i2b leaves of a char -/
def lo8 (x : Int32) : Int32 := x.toInt8.toInt32
theorem fits_lo8 (y : Int32) : fits .byte (.int (lo8 y)) = true := by
  have h1 := y.toInt8.le_toInt
  have h2 := y.toInt8.toInt_lt
  simp only [lo8, fits, Bool.and_eq_true, decide_eq_true_eq, Int32.le_iff_toInt_le, Int8.toInt_toInt32, show (-128 : Int32).toInt = -128 from by decide, show (127 : Int32).toInt = 127 from by decide]
  omega
/-- A' is A but that each place j of lo .. hi - 1 holds f j -/
def Laid (A A' : Cell) (lo hi : Nat) (f : Nat → Value) : Prop := A'.cls = A.cls ∧ A'.vm = A.vm ∧ A'.slots.size = A.slots.size ∧ ∀ i, A'.slots[i]? = if lo ≤ i ∧ i < hi then some (f i) else A.slots[i]?
theorem Laid.zero (A : Cell) (lo : Nat) (f : Nat → Value) : Laid A A lo (lo + 0) f := ⟨rfl, rfl, rfl, fun i => by rw [if_neg (by omega)]⟩
theorem Laid.step {A Ak : Cell} {lo k : Nat} {f : Nat → Value} {v : Value} (h : Laid A Ak lo k f) (hlo : lo ≤ k) (hk : k < Ak.slots.size) (hv : v = f k) : Laid A (Ak.setSlot k v) lo (k + 1) f := by
  refine ⟨h.1, h.2.1, by simpa [Cell.setSlot] using h.2.2.1, fun i => ?_⟩
  by_cases e : k = i
  · subst e; rw [Cell.slots_setSlot_self v hk, if_pos (by omega), hv]
  · rw [Cell.slots_setSlot_ne v e, h.2.2.2 i]
    by_cases q : lo ≤ i ∧ i < k
    · rw [if_pos q, if_pos (by omega)]
    · rw [if_neg q, if_neg (by omega)]
def U16 : String := "java/lang/StringUTF16"
namespace Cmp5
def yN : MethodName := ⟨"java/lang/StringUTF16", "compress", "([CI[BII)I"⟩
abbrev yB : ByteArray := jdk_52_method_21_code
theorem d0 : decode yB 0 = .ok (.iconst 0, 1) := by decide +kernel
theorem d1 : decode yB 1 = .ok (.istore 5, 2) := by decide +kernel
theorem d3 : decode yB 3 = .ok (.iload 5, 2) := by decide +kernel
theorem d5 : decode yB 5 = .ok (.iload 4, 2) := by decide +kernel
theorem d7 : decode yB 7 = .ok (.if_icmp (.ge) 37, 3) := by decide +kernel
theorem d10 : decode yB 10 = .ok (.aload_n 0, 1) := by decide +kernel
theorem d11 : decode yB 11 = .ok (.iload_n 1, 1) := by decide +kernel
theorem d12 : decode yB 12 = .ok (.caload, 1) := by decide +kernel
theorem d13 : decode yB 13 = .ok (.istore 6, 2) := by decide +kernel
theorem d15 : decode yB 15 = .ok (.iload 6, 2) := by decide +kernel
theorem d17 : decode yB 17 = .ok (.sipush 255, 3) := by decide +kernel
theorem d20 : decode yB 20 = .ok (.if_icmp (.le) 6, 3) := by decide +kernel
theorem d26 : decode yB 26 = .ok (.aload_n 2, 1) := by decide +kernel
theorem d27 : decode yB 27 = .ok (.iload_n 3, 1) := by decide +kernel
theorem d28 : decode yB 28 = .ok (.iload 6, 2) := by decide +kernel
theorem d30 : decode yB 30 = .ok (.i2b, 1) := by decide +kernel
theorem d31 : decode yB 31 = .ok (.bastore, 1) := by decide +kernel
theorem d32 : decode yB 32 = .ok (.iinc 1 1, 3) := by decide +kernel
theorem d35 : decode yB 35 = .ok (.iinc 3 1, 3) := by decide +kernel
theorem d38 : decode yB 38 = .ok (.iinc 5 1, 3) := by decide +kernel
theorem d41 : decode yB 41 = .ok (.goto (-38), 3) := by decide +kernel
theorem d44 : decode yB 44 = .ok (.iload 4, 2) := by decide +kernel
theorem d46 : decode yB 46 = .ok (.ireturn, 1) := by decide +kernel
def site : List Cond := []
def tab : Cond := tabOf yN yB 7 (some .int) site
def P (b : Addr) (A : Cell) (d : Addr) (B : Cell) (o q len : Nat) (args : Array Value) (s : State) : Prop := args = #[.ref b, .int (Int32.ofNat o), .ref d, .int (Int32.ofNat q), .int (Int32.ofNat len)] ∧ Ch b A s ∧ Arr .byte d B s ∧ b ≠ d ∧ o + len ≤ A.slots.size ∧ q + len ≤ B.slots.size ∧ ∀ i, i < len → ¬ 255 < cv A (o + i)
def E (b : Addr) (A : Cell) (d : Addr) (B : Cell) (o q len : Nat) (r : Option Value) (s u : State) : Prop := r = some (.int (Int32.ofNat len)) ∧ ∃ B', Put d B' s u ∧ Laid B B' q (q + len) (fun j => Value.int (lo8 (cv A (o + (j - q)))))
/-- no char of the range above 255: len; the places written hold each char's low byte -/
theorem law (l : Launch) (b : Addr) (A : Cell) (d : Addr) (B : Cell) (o q len : Nat) : Law l yN 5 5 0 0 yB 7 (some .int) site (P b A d B o q len) (E b A d B o q len) (copyLocs d q len) 0 0 := by
  refine Law.of_walk (plainFor_of_name (by decide +kernel)) (by decide +kernel) (by decide +kernel) (by decide) (fun _ _ h => by rw [h.1]; rfl) (fun _ U U' hal hh h => ⟨h.1, h.2.1.mv hal hh, h.2.2.1.mv hal hh, h.2.2.2⟩) (fun r U U' V V' h1 hal h2 h => ⟨h.1, h.2.elim fun B' q => ⟨B', q.1.mv h1 h2, q.2⟩⟩) ?_
  intro p e s m args below meth c s₁ X0 hexec hbytes hml hret hlk hnm hown hh0 W hP
  obtain ⟨rfl, hA, hB, hne, l1, l2, hp⟩ := hP
  have c1 : Steps p.tables e below (s₁.setTop (entryFrame m #[.ref b, .int (Int32.ofNat o), .ref d, .int (Int32.ofNat q), .int (Int32.ofNat len)] 7)) (s₁.setTop (mkF m 0 #[.val (.ref b), .val (.int (Int32.ofNat o)), .val (.ref d), .val (.int (Int32.ofNat q)), .val (.int (Int32.ofNat len)), .unset, .unset] [])) := entry rfl
  have hA0 := hA.1.mv X0.warmed.alike hh0
  have hB0 := hB.mv X0.warmed.alike hh0
  have a31 := hA.1.2.2.2
  have c2 : Steps p.tables e below (s₁.setTop (entryFrame m #[.ref b, .int (Int32.ofNat o), .ref d, .int (Int32.ofNat q), .int (Int32.ofNat len)] 7)) (s₁.setTop (mkF m 3 #[.val (.ref b), .val (.int (Int32.ofNat o)), .val (.ref d), .val (.int (Int32.ofNat q)), .val (.int (Int32.ofNat len)), .val (.int 0), .unset] [])) := c1.trans (by
    refine iconstV X0.here hexec rfl 0 (hb hbytes d0) (by decide) ?_
    refine XS.istore X0.here hexec rfl (hb hbytes d1) rfl rfl ?_
    exact Steps.refl _)
  have loop : ∀ (r i : Nat), i + r = len → ∀ (z : Slot), (z = .unset ∨ ∃ w, z = .val w ∧ w.category = 1) → ∀ (Tl : State) (Bk : Cell), Stand p l e { frames := 0, locals := 0, cells := 0, slots := 0 } s m #[.ref b, .int (Int32.ofNat o), .ref d, .int (Int32.ofNat q), .int (Int32.ofNat len)] below meth c Tl ([] ++ copyLocs d q i) 0 0 → Put d Bk s₁ Tl → Laid B Bk q (q + i) (fun j => Value.int (lo8 (cv A (o + (j - q))))) →
      Steps p.tables e below (s₁.setTop (entryFrame m #[.ref b, .int (Int32.ofNat o), .ref d, .int (Int32.ofNat q), .int (Int32.ofNat len)] 7)) (Tl.setTop (mkF m 3 #[.val (.ref b), .val (.int (Int32.ofNat (o + i))), .val (.ref d), .val (.int (Int32.ofNat (q + i))), .val (.int (Int32.ofNat len)), .val (.int (Int32.ofNat i)), z] [])) → ∃ (T' : State) (B' : Cell) (z' : Slot), Stand p l e { frames := 0, locals := 0, cells := 0, slots := 0 } s m #[.ref b, .int (Int32.ofNat o), .ref d, .int (Int32.ofNat q), .int (Int32.ofNat len)] below meth c T' ([] ++ copyLocs d q len) 0 0 ∧ Put d B' s₁ T' ∧ Laid B B' q (q + len) (fun j => Value.int (lo8 (cv A (o + (j - q))))) ∧
      Steps p.tables e below (s₁.setTop (entryFrame m #[.ref b, .int (Int32.ofNat o), .ref d, .int (Int32.ofNat q), .int (Int32.ofNat len)] 7)) (T'.setTop (mkF m 3 #[.val (.ref b), .val (.int (Int32.ofNat (o + len))), .val (.ref d), .val (.int (Int32.ofNat (q + len))), .val (.int (Int32.ofNat len)), .val (.int (Int32.ofNat len)), z'] [])) := by
    intro r
    induction r with
    | zero =>
      intro i hi z hz Tl Bk Xl pl fl cl
      have hil : i = len := by omega
      rw [hil] at Xl fl cl
      exact ⟨Tl, Bk, z, Xl, pl, fl, cl⟩
    | succ r ih =>
      intro i hi z hz Tl Bk Xl pl fl cl
      have all := X0.warmed.alike.symm.trans Xl.warmed.alike
      have hAl := hA0.keep all (pl.other hne hA0.1)
      have hBk := hB0.like all pl.1 fl.1 fl.2.1 fl.2.2.1
      have hlt : q + i < Bk.slots.size := by rw [fl.2.2.1]; omega
      have c3 : Steps p.tables e below (s₁.setTop (entryFrame m #[.ref b, .int (Int32.ofNat o), .ref d, .int (Int32.ofNat q), .int (Int32.ofNat len)] 7)) (Tl.setTop (mkF m 12 #[.val (.ref b), .val (.int (Int32.ofNat (o + i))), .val (.ref d), .val (.int (Int32.ofNat (q + i))), .val (.int (Int32.ofNat len)), .val (.int (Int32.ofNat i)), z] [.int (Int32.ofNat (o + i)), .ref b])) := cl.trans (by
        refine XS.iload Xl.here hexec rfl (hb hbytes d3) rfl ?_
        refine XS.iload Xl.here hexec rfl (hb hbytes d5) rfl ?_
        refine XS.icmpNo Xl.here hexec rfl (hb hbytes d7) rfl (ii_ge_f (lt32 (by omega) (by omega))) ?_
        refine XS.aloadN Xl.here hexec rfl (hb hbytes d10) rfl rfl ?_
        refine XS.iloadN Xl.here hexec rfl (hb hbytes d11) rfl ?_
        exact Steps.refl _)
      have c4 : Steps p.tables e below (s₁.setTop (entryFrame m #[.ref b, .int (Int32.ofNat o), .ref d, .int (Int32.ofNat q), .int (Int32.ofNat len)] 7)) (Tl.setTop (mkF m 13 #[.val (.ref b), .val (.int (Int32.ofNat (o + i))), .val (.ref d), .val (.int (Int32.ofNat (q + i))), .val (.int (Int32.ofNat len)), .val (.int (Int32.ofNat i)), z] [.int (cv A (o + i))])) := c3.trans (by
        refine Xl.aget hexec hAl rfl (hA.get (i := o + i) (by omega)) rfl rfl (hb hbytes d12) ?_
        exact Steps.refl _)
      have c5 : Steps p.tables e below (s₁.setTop (entryFrame m #[.ref b, .int (Int32.ofNat o), .ref d, .int (Int32.ofNat q), .int (Int32.ofNat len)] 7)) (Tl.setTop (mkF m 15 #[.val (.ref b), .val (.int (Int32.ofNat (o + i))), .val (.ref d), .val (.int (Int32.ofNat (q + i))), .val (.int (Int32.ofNat len)), .val (.int (Int32.ofNat i)), .val (.int (cv A (o + i)))] [])) := c4.trans (by
        refine XS.istoreS Xl.here hexec rfl (hb hbytes d13) rfl rfl hz ?_
        exact Steps.refl _)
      have c6 : Steps p.tables e below (s₁.setTop (entryFrame m #[.ref b, .int (Int32.ofNat o), .ref d, .int (Int32.ofNat q), .int (Int32.ofNat len)] 7)) (Tl.setTop (mkF m 31 #[.val (.ref b), .val (.int (Int32.ofNat (o + i))), .val (.ref d), .val (.int (Int32.ofNat (q + i))), .val (.int (Int32.ofNat len)), .val (.int (Int32.ofNat i)), .val (.int (cv A (o + i)))] [.int (lo8 (cv A (o + i))), .int (Int32.ofNat (q + i)), .ref d])) := c5.trans (by
        refine XS.iload Xl.here hexec rfl (hb hbytes d15) rfl ?_
        refine sipushV Xl.here hexec rfl 255 (hb hbytes d17) (by decide) ?_
        refine XS.icmpYes Xl.here hexec rfl (pc0 := 20) rfl (hb hbytes d20) rfl (ii_le_t (hp i (by omega))) (by decide) rfl ?_
        refine XS.aloadN Xl.here hexec rfl (hb hbytes d26) rfl rfl ?_
        refine XS.iloadN Xl.here hexec rfl (hb hbytes d27) rfl ?_
        refine XS.iload Xl.here hexec rfl (hb hbytes d28) rfl ?_
        refine i2b Xl.here hexec rfl (hb hbytes d30) rfl ?_
        exact Steps.refl _)
      obtain ⟨T7, X7, p7, st7⟩ := Xl.aput hexec hBk rfl hlt rfl (fits_lo8 (cv A (o + i))) (g := (mkF m 31 #[.val (.ref b), .val (.int (Int32.ofNat (o + i))), .val (.ref d), .val (.int (Int32.ofNat (q + i))), .val (.int (Int32.ofNat len)), .val (.int (Int32.ofNat i)), .val (.int (cv A (o + i)))] [.int (lo8 (cv A (o + i))), .int (Int32.ofNat (q + i)), .ref d])) rfl (rest := []) rfl (hb hbytes d31)
      have c8 : Steps p.tables e below (s₁.setTop (entryFrame m #[.ref b, .int (Int32.ofNat o), .ref d, .int (Int32.ofNat q), .int (Int32.ofNat len)] 7)) (T7.setTop (mkF m 32 #[.val (.ref b), .val (.int (Int32.ofNat (o + i))), .val (.ref d), .val (.int (Int32.ofNat (q + i))), .val (.int (Int32.ofNat len)), .val (.int (Int32.ofNat i)), .val (.int (cv A (o + i)))] [])) := c6.trans (st7 _ (Steps.refl _))
      have c9 : Steps p.tables e below (s₁.setTop (entryFrame m #[.ref b, .int (Int32.ofNat o), .ref d, .int (Int32.ofNat q), .int (Int32.ofNat len)] 7)) (T7.setTop (mkF m 3 #[.val (.ref b), .val (.int (Int32.ofNat (o + i) + 1)), .val (.ref d), .val (.int (Int32.ofNat (q + i) + 1)), .val (.int (Int32.ofNat len)), .val (.int (Int32.ofNat i + 1)), .val (.int (cv A (o + i)))] [])) := c8.trans (by
        refine iincV X7.here hexec rfl 1 (hb hbytes d32) (by decide) rfl rfl ?_
        refine iincV X7.here hexec rfl 1 (hb hbytes d35) (by decide) rfl rfl ?_
        refine iincV X7.here hexec rfl 1 (hb hbytes d38) (by decide) rfl rfl ?_
        refine XS.goto X7.here hexec rfl (pc0 := 41) rfl (hb hbytes d41) (by decide) rfl ?_
        exact Steps.refl _)
      have c10 : Steps p.tables e below (s₁.setTop (entryFrame m #[.ref b, .int (Int32.ofNat o), .ref d, .int (Int32.ofNat q), .int (Int32.ofNat len)] 7)) (T7.setTop (mkF m 3 #[.val (.ref b), .val (.int (Int32.ofNat (o + (i + 1)))), .val (.ref d), .val (.int (Int32.ofNat (q + (i + 1)))), .val (.int (Int32.ofNat len)), .val (.int (Int32.ofNat (i + 1))), .val (.int (cv A (o + i)))] [])) := by
        have := c9
        rw [succ32, succ32, succ32] at this
        exact this
      exact ih (i + 1) (by omega) _ (Or.inr ⟨_, rfl, rfl⟩) T7 _ (by rw [copyLocs_step, ← List.append_assoc]; exact X7) (pl.trans p7) (fl.step (by omega) hlt (by simp)) c10
  obtain ⟨T9, B9, z9, X9, p9, f9, g9⟩ := loop len 0 (by omega) .unset (Or.inl rfl) s₁ B (by simpa [copyLocs] using X0) ⟨hB0.1, fun _ _ => rfl, rfl⟩ (Laid.zero _ _ _) c2
  have c11 : Steps p.tables e below (s₁.setTop (entryFrame m #[.ref b, .int (Int32.ofNat o), .ref d, .int (Int32.ofNat q), .int (Int32.ofNat len)] 7)) (T9.setTop (mkF m 46 #[.val (.ref b), .val (.int (Int32.ofNat (o + len))), .val (.ref d), .val (.int (Int32.ofNat (q + len))), .val (.int (Int32.ofNat len)), .val (.int (Int32.ofNat len)), z9] [.int (Int32.ofNat len)])) := g9.trans (by
    refine XS.iload X9.here hexec rfl (hb hbytes d3) rfl ?_
    refine XS.iload X9.here hexec rfl (hb hbytes d5) rfl ?_
    refine XS.icmpYes X9.here hexec rfl (pc0 := 7) rfl (hb hbytes d7) rfl (ii_ge_t (nlt32 (by omega) (Nat.le_refl _))) (by decide) rfl ?_
    refine XS.iload X9.here hexec rfl (hb hbytes d44) rfl ?_
    exact Steps.refl _)
  exact ⟨T9, some (.int (Int32.ofNat len)), _, _, _, X9, by simp, rfl, rfl, (fun h => by cases h), ⟨rfl, B9, p9.from hh0, f9⟩, fun fs hl => c11.trans (X9.ireturnOut hexec hret rfl (Or.inl rfl) (hb hbytes d46) hl)⟩
end Cmp5
namespace Cmp3
def yN : MethodName := ⟨"java/lang/StringUTF16", "compress", "([CII)[B"⟩
abbrev yB : ByteArray := jdk_52_method_16_code
theorem d0 : decode yB 0 = .ok (.iload_n 2, 1) := by decide +kernel
theorem d1 : decode yB 1 = .ok (.newarray .byte, 2) := by decide +kernel
theorem d3 : decode yB 3 = .ok (.astore_n 3, 1) := by decide +kernel
theorem d4 : decode yB 4 = .ok (.aload_n 0, 1) := by decide +kernel
theorem d5 : decode yB 5 = .ok (.iload_n 1, 1) := by decide +kernel
theorem d6 : decode yB 6 = .ok (.aload_n 3, 1) := by decide +kernel
theorem d7 : decode yB 7 = .ok (.iconst 0, 1) := by decide +kernel
theorem d8 : decode yB 8 = .ok (.iload_n 2, 1) := by decide +kernel
theorem d9 : decode yB 9 = .ok (.invokestatic 115, 3) := by decide +kernel
theorem d12 : decode yB 12 = .ok (.istore 4, 2) := by decide +kernel
theorem d14 : decode yB 14 = .ok (.iload 4, 2) := by decide +kernel
theorem d16 : decode yB 16 = .ok (.iload_n 2, 1) := by decide +kernel
theorem d17 : decode yB 17 = .ok (.if_icmp (.eq) 40, 3) := by decide +kernel
theorem d57 : decode yB 57 = .ok (.aload_n 3, 1) := by decide +kernel
theorem d58 : decode yB 58 = .ok (.areturn, 1) := by decide +kernel
def site : List Cond := [.arrayClass .byte, Cmp5.tab] ++ staticW U16 115 Cmp5.yN
def tab : Cond := tabOf yN yB 6 (some (.array .byte)) site
def P (b : Addr) (A : Cell) (o len : Nat) (args : Array Value) (s : State) : Prop := args = #[.ref b, .int (Int32.ofNat o), .int (Int32.ofNat len)] ∧ Ch b A s ∧ o + len ≤ A.slots.size ∧ len ≤ 536870912 ∧ ∀ i, i < len → ¬ 255 < cv A (o + i)
def E (b : Addr) (A : Cell) (o len : Nat) (r : Option Value) (s u : State) : Prop := NewArr .byte "[B" len (fun j => .int (lo8 (cv A (o + j)))) r s u ∧ u.heap.size = s.heap.size + 1
/-- no char of the range above 255: a new byte[] of their low bytes -/
theorem law (l : Launch) (b : Addr) (A : Cell) (o len : Nat) : Law l yN 3 3 1 18 yB 6 (some (.array .byte)) site (P b A o len) (E b A o len) [] 1 len := by
  refine Law.of_walk (plainFor_of_name (by decide +kernel)) (by decide +kernel) (by decide +kernel) (by decide) (fun _ _ h => by rw [h.1]; rfl) (fun _ U U' hal hh h => ⟨h.1, h.2.1.mv hal hh, h.2.2⟩) (fun r U U' V V' h1 hal h2 h => ⟨NewArr.mv r U U' V V' h1 hal h2 h.1, by rw [h1, h2]; exact h.2⟩) ?_
  intro p e s m args below meth c s₁ X0 hexec hbytes hml hret hlk hnm hown hh0 W hP
  obtain ⟨rfl, hA, l1, l2, hp⟩ := hP
  have a31 := hA.1.2.2.2
  have c1 : Steps p.tables e below (s₁.setTop (entryFrame m #[.ref b, .int (Int32.ofNat o), .int (Int32.ofNat len)] 6)) (s₁.setTop (mkF m 0 #[.val (.ref b), .val (.int (Int32.ofNat o)), .val (.int (Int32.ofNat len)), .unset, .unset, .unset] [])) := entry rfl
  have c2 : Steps p.tables e below (s₁.setTop (entryFrame m #[.ref b, .int (Int32.ofNat o), .int (Int32.ofNat len)] 6)) (s₁.setTop (mkF m 1 #[.val (.ref b), .val (.int (Int32.ofNat o)), .val (.int (Int32.ofNat len)), .unset, .unset, .unset] [.int (Int32.ofNat len)])) := c1.trans (by
    refine XS.iloadN X0.here hexec rfl (hb hbytes d0) rfl ?_
    exact Steps.refl _)
  obtain ⟨T3, B3, X3, ba3, bs3, bv3, bh3, bf3, st3⟩ := X0.anew hexec (atype := .byte) (wk W (.arrayClass .byte)) rfl (by show len * 1 ≤ _; omega) (by omega) (g := (mkF m 1 #[.val (.ref b), .val (.int (Int32.ofNat o)), .val (.int (Int32.ofNat len)), .unset, .unset, .unset] [.int (Int32.ofNat len)])) rfl (hb hbytes d1) (rest := []) rfl (Nat.le_refl _) (by show 0 + len ≤ len; omega)
  rw [hh0] at ba3 st3
  have kp3 : XT.Kept s T3 := (XT.Kept.of_eq hh0).push bh3
  have hA3 := hA.keep X3.warmed.alike (kp3 _ _ hA.1.1)
  have hne : b ≠ s.heap.size := hA.1.ne
  have c4 : Steps p.tables e below (s₁.setTop (entryFrame m #[.ref b, .int (Int32.ofNat o), .int (Int32.ofNat len)] 6)) (T3.setTop (mkF m 3 #[.val (.ref b), .val (.int (Int32.ofNat o)), .val (.int (Int32.ofNat len)), .unset, .unset, .unset] [.ref s.heap.size])) := c2.trans (st3 _ (Steps.refl _))
  have c5 : Steps p.tables e below (s₁.setTop (entryFrame m #[.ref b, .int (Int32.ofNat o), .int (Int32.ofNat len)] 6)) (T3.setTop (mkF m 9 #[.val (.ref b), .val (.int (Int32.ofNat o)), .val (.int (Int32.ofNat len)), .val (.ref s.heap.size), .unset, .unset] [.int (Int32.ofNat len), .int 0, .ref s.heap.size, .int (Int32.ofNat o), .ref b])) := c4.trans (by
    refine XS.astoreN X3.here hexec rfl (hb hbytes d3) rfl rfl rfl ?_
    refine XS.aloadN X3.here hexec rfl (hb hbytes d4) rfl rfl ?_
    refine XS.iloadN X3.here hexec rfl (hb hbytes d5) rfl ?_
    refine XS.aloadN X3.here hexec rfl (hb hbytes d6) rfl rfl ?_
    refine iconstV X3.here hexec rfl 0 (hb hbytes d7) (by decide) ?_
    refine XS.iloadN X3.here hexec rfl (hb hbytes d8) rfl ?_
    exact Steps.refl _)
  obtain ⟨v6, T6, X6, E6, g6⟩ := X3.callS hexec (Cmp5.law l b A s.heap.size B3 o 0 len) hown (wks W (staticW U16 115 Cmp5.yN)) (wk W Cmp5.tab) (W := 0) (Nat.le_of_ble_eq_true rfl) (Nat.le_of_ble_eq_true rfl) (Nat.le_refl _) (by show 0 + len + 0 ≤ len; omega) (g := (mkF m 9 #[.val (.ref b), .val (.int (Int32.ofNat o)), .val (.int (Int32.ofNat len)), .val (.ref s.heap.size), .unset, .unset] [.int (Int32.ofNat len), .int (Int32.ofNat 0), .ref s.heap.size, .int (Int32.ofNat o), .ref b])) rfl (by rw [hml]; rfl) c5 (argsL := [.ref b, .int (Int32.ofNat o), .ref s.heap.size, .int (Int32.ofNat 0), .int (Int32.ofNat len)]) (rest := []) rfl rfl (by show 2 * 0 + 0 ≤ _; decide) (hb hbytes d9) (⟨rfl, hA3, ba3, hne, l1, by rw [bs3]; simp, hp⟩)
  obtain ⟨rfl, B6, p6, f6⟩ := E6
  have c7 : Steps p.tables e below (s₁.setTop (entryFrame m #[.ref b, .int (Int32.ofNat o), .int (Int32.ofNat len)] 6)) (T6.setTop (mkF m 12 #[.val (.ref b), .val (.int (Int32.ofNat o)), .val (.int (Int32.ofNat len)), .val (.ref s.heap.size), .unset, .unset] [.int (Int32.ofNat len)])) := g6
  have c8 : Steps p.tables e below (s₁.setTop (entryFrame m #[.ref b, .int (Int32.ofNat o), .int (Int32.ofNat len)] 6)) (T6.setTop (mkF m 58 #[.val (.ref b), .val (.int (Int32.ofNat o)), .val (.int (Int32.ofNat len)), .val (.ref s.heap.size), .val (.int (Int32.ofNat len)), .unset] [.ref s.heap.size])) := c7.trans (by
    refine XS.istore X6.here hexec rfl (hb hbytes d12) rfl rfl ?_
    refine XS.iload X6.here hexec rfl (hb hbytes d14) rfl ?_
    refine XS.iloadN X6.here hexec rfl (hb hbytes d16) rfl ?_
    refine XS.icmpYes X6.here hexec rfl (pc0 := 17) rfl (hb hbytes d17) rfl (ii_eq_t rfl) (by decide) rfl ?_
    refine XS.aloadN X6.here hexec rfl (hb hbytes d57) rfl rfl ?_
    exact Steps.refl _)
  have X8 := X6.wide (L' := []) (cells' := 1) (slots' := len) (fun x hx hlt => by
    simp only [List.nil_append, copyLocs, List.mem_map, List.mem_range] at hx
    obtain ⟨i, -, rfl⟩ := hx
    exact absurd hlt (Nat.lt_irrefl _)) (Nat.le_refl _) (by omega)
  exact ⟨T6, some (.ref s.heap.size), _, _, _, X8, rfl, rfl, rfl, (fun h => by cases h), ⟨⟨rfl, B6, ba3.like (X3.warmed.alike.symm.trans X6.warmed.alike) p6.1 f6.1 f6.2.1 f6.2.2.1, f6.2.1.trans bv3, by rw [X6.warmed.alike.findClass, f6.1]; exact bf3, by rw [f6.2.2.1, bs3]; simp, fun j hj => by rw [f6.2.2.2 j, if_pos (by omega)]; rfl, kp3.put p6 (Nat.le_refl _)⟩, by rw [p6.2.2, bh3, hh0]; simp⟩, fun fs hl => c8.trans (X8.areturnOut hexec rfl hret rfl (hb hbytes d58) hl)⟩
end Cmp3
namespace CodL
def yN : MethodName := ⟨"java/lang/StringUTF16", "coderFromArrayLen", "([BI)B"⟩
abbrev yB : ByteArray := jdk_52_method_15_code
theorem d0 : decode yB 0 = .ok (.iload_n 1, 1) := by decide +kernel
theorem d1 : decode yB 1 = .ok (.aload_n 0, 1) := by decide +kernel
theorem d2 : decode yB 2 = .ok (.arraylength, 1) := by decide +kernel
theorem d3 : decode yB 3 = .ok (.isub, 1) := by decide +kernel
theorem d4 : decode yB 4 = .ok (.bipush 31, 2) := by decide +kernel
theorem d6 : decode yB 6 = .ok (.iushr, 1) := by decide +kernel
theorem d7 : decode yB 7 = .ok (.i2b, 1) := by decide +kernel
theorem d8 : decode yB 8 = .ok (.ireturn, 1) := by decide +kernel
def site : List Cond := []
def tab : Cond := tabOf yN yB 2 (some .byte) site
def P (d : Addr) (B : Cell) (args : Array Value) (s : State) : Prop := args = #[.ref d, .int (Int32.ofNat B.slots.size)] ∧ Arr .byte d B s
def E (r : Option Value) (s u : State) : Prop := XT.PureE (some (.int 0)) r s u
/-- an array as long as the number of chars: LATIN1 -/
theorem law (l : Launch) (d : Addr) (B : Cell) : Law l yN 2 2 0 0 yB 2 (some .byte) site (P d B) E [] 0 0 := by
  refine Law.of_walk (plainFor_of_name (by decide +kernel)) (by decide +kernel) (by decide +kernel) (by decide) (fun _ _ h => by rw [h.1]; rfl) (fun _ U U' hal hh h => ⟨h.1, h.2.mv hal hh⟩) (fun r U U' V V' h1 hal h2 h => XT.PureE.mv r U U' V V' h1 hal h2 h) ?_
  intro p e s m args below meth c s₁ X0 hexec hbytes hml hret hlk hnm hown hh0 W hP
  obtain ⟨rfl, hB⟩ := hP
  have hB0 := hB.mv X0.warmed.alike hh0
  have c1 : Steps p.tables e below (s₁.setTop (entryFrame m #[.ref d, .int (Int32.ofNat B.slots.size)] 2)) (s₁.setTop (mkF m 0 #[.val (.ref d), .val (.int (Int32.ofNat B.slots.size))] [])) := entry rfl
  have c2 : Steps p.tables e below (s₁.setTop (entryFrame m #[.ref d, .int (Int32.ofNat B.slots.size)] 2)) (s₁.setTop (mkF m 2 #[.val (.ref d), .val (.int (Int32.ofNat B.slots.size))] [.ref d, .int (Int32.ofNat B.slots.size)])) := c1.trans (by
    refine XS.iloadN X0.here hexec rfl (hb hbytes d0) rfl ?_
    refine XS.aloadN X0.here hexec rfl (hb hbytes d1) rfl rfl ?_
    exact Steps.refl _)
  have c3 : Steps p.tables e below (s₁.setTop (entryFrame m #[.ref d, .int (Int32.ofNat B.slots.size)] 2)) (s₁.setTop (mkF m 8 #[.val (.ref d), .val (.int (Int32.ofNat B.slots.size))] [.int (lo8 (ushr (Int32.ofNat B.slots.size - Int32.ofNat B.slots.size) 31))])) := c2.trans (by
    refine X0.alen hexec hB0 rfl rfl (hb hbytes d2) ?_
    refine XS.isub X0.here hexec rfl (hb hbytes d3) rfl ?_
    refine bipushV X0.here hexec rfl 31 (hb hbytes d4) (by decide) ?_
    refine iushr X0.here hexec rfl (hb hbytes d6) rfl ?_
    refine i2b X0.here hexec rfl (hb hbytes d7) rfl ?_
    exact Steps.refl _)
  have e0 : lo8 (ushr (Int32.ofNat B.slots.size - Int32.ofNat B.slots.size) 31) = 0 := by rw [Int32.sub_self]; decide
  rw [e0] at c3
  exact ⟨s₁, some (.int 0), _, _, _, X0, rfl, rfl, rfl, (fun h => by cases h), ⟨rfl, hh0⟩, fun fs hl => c3.trans (X0.ireturnOut hexec hret rfl (Or.inr (Or.inr (Or.inl rfl))) (hb hbytes d8) hl)⟩
end CodL
/-- the String at a is Latin-1 over a new byte[] (the heap's one new cell): the low bytes of the len chars of A from o on; every cell but a is kept -/
def Got (a : Addr) (D : Cell) (fV fC : Field) (A : Cell) (o len : Nat) (r : Option Value) (s u : State) : Prop := r = none ∧ ∃ D' V : Cell, Blank "java/lang/String" a D' u ∧ Same D D' [fV.slot, fC.slot] ∧ D'.slots[fV.slot]? = some (.ref s.heap.size) ∧ D'.slots[fC.slot]? = some (.int 0) ∧ Arr .byte s.heap.size V u ∧ V.vm = .none ∧ u.vm.findClass "[B" = some V.cls ∧ V.slots.size = len ∧ (∀ j, j < len → V.slots[j]? = some (.int (lo8 (cv A (o + j))))) ∧ (∀ (y : Addr) (c : Cell), y ≠ a → s.heap[y]? = some c → u.heap[y]? = some c) ∧ u.heap.size = s.heap.size + 1
theorem Got.mv {a : Addr} {D A : Cell} {fV fC : Field} {o len : Nat} : ∀ r (U U' V V' : State), U'.heap = U.heap → V.vm.Alike V'.vm → V'.heap = V.heap → Got a D fV fC A o len r U V → Got a D fV fC A o len r U' V' :=
  fun r U U' V V' h1 hal h2 ⟨e0, D', X, a1, a2, a3, a4, a5, a6, a7, a8, a9, a10, a11⟩ => ⟨e0, D', X, a1.mv hal h2, a2, by rw [h1]; exact a3, a4, by rw [h1]; exact a5.mv hal h2, a6, by rw [hal.findClass]; exact a7, a8, a9, by rw [h1, h2]; exact a10, by rw [h1, h2]; exact a11⟩
namespace New4
def yN : MethodName := ⟨"java/lang/String", "<init>", "([CIILjava/lang/Void;)V"⟩
abbrev yB : ByteArray := jdk_42_method_149_code
theorem d0 : decode yB 0 = .ok (.aload_n 0, 1) := by decide +kernel
theorem d1 : decode yB 1 = .ok (.invokespecial 1, 3) := by decide +kernel
theorem d4 : decode yB 4 = .ok (.iload_n 3, 1) := by decide +kernel
theorem d5 : decode yB 5 = .ok (.ifCond (.ne) 22, 3) := by decide +kernel
theorem d27 : decode yB 27 = .ok (.getstatic 38, 3) := by decide +kernel
theorem d30 : decode yB 30 = .ok (.ifCond (.eq) 28, 3) := by decide +kernel
theorem d33 : decode yB 33 = .ok (.aload_n 1, 1) := by decide +kernel
theorem d34 : decode yB 34 = .ok (.iload_n 2, 1) := by decide +kernel
theorem d35 : decode yB 35 = .ok (.iload_n 3, 1) := by decide +kernel
theorem d36 : decode yB 36 = .ok (.invokestatic 177, 3) := by decide +kernel
theorem d39 : decode yB 39 = .ok (.astore 5, 2) := by decide +kernel
theorem d41 : decode yB 41 = .ok (.aload_n 0, 1) := by decide +kernel
theorem d42 : decode yB 42 = .ok (.aload 5, 2) := by decide +kernel
theorem d44 : decode yB 44 = .ok (.iload_n 3, 1) := by decide +kernel
theorem d45 : decode yB 45 = .ok (.invokestatic 47, 3) := by decide +kernel
theorem d48 : decode yB 48 = .ok (.putfield 15, 3) := by decide +kernel
theorem d51 : decode yB 51 = .ok (.aload_n 0, 1) := by decide +kernel
theorem d52 : decode yB 52 = .ok (.aload 5, 2) := by decide +kernel
theorem d54 : decode yB 54 = .ok (.putfield 9, 3) := by decide +kernel
theorem d57 : decode yB 57 = .ok (.return_, 1) := by decide +kernel
def site : List Cond := [.fieldLink "java/lang/String" 38 "java/lang/String" "COMPACT_STRINGS" "Z", Cmp3.tab, CodL.tab, .laysFinal "java/lang/String" "java/lang/String" "value" "[B", .fieldLink "java/lang/String" 9 "java/lang/String" "value" "[B", .laysFinal "java/lang/String" "java/lang/String" "coder" "B", .fieldLink "java/lang/String" 15 "java/lang/String" "coder" "B"] ++ objW "java/lang/String" 1 ++ staticW "java/lang/String" 177 Cmp3.yN ++ staticW "java/lang/String" 47 CodL.yN
def tab : Cond := tabOf yN yB 6 none site
def P (a : Addr) (D : Cell) (fV fC : Field) (b : Addr) (A : Cell) (z : Int32) (o len : Nat) (args : Array Value) (s : State) : Prop := args = #[.ref a, .ref b, .int (Int32.ofNat o), .int (Int32.ofNat len), .null] ∧ Blank "java/lang/String" a D s ∧ Found "java/lang/String" "value" "[B" fV s ∧ Found "java/lang/String" "coder" "B" fC s ∧ Ch b A s ∧ StaticIs s "java/lang/String" "COMPACT_STRINGS" "Z" (.int z) ∧ ¬ z = 0 ∧ 0 < len ∧ o + len ≤ A.slots.size ∧ len ≤ 536870912 ∧ ∀ i, i < len → ¬ 255 < cv A (o + i)
def E (a : Addr) (D : Cell) (fV fC : Field) (A : Cell) (o len : Nat) (r : Option Value) (s u : State) : Prop := Got a D fV fC A o len r s u
/-- len > 0, no char of the range above 255: a Latin-1 String of their low bytes -/
theorem law (l : Launch) (a : Addr) (D : Cell) (fV fC : Field) (b : Addr) (A : Cell) (z : Int32) (o len : Nat) : Law l yN 5 4 2 35 yB 6 none site (P a D fV fC b A z o len) (E a D fV fC A o len) [⟨a, fC.slot⟩, ⟨a, fV.slot⟩] 1 len := by
  refine Law.of_walk (plainFor_of_name (by decide +kernel)) (by decide +kernel) (by decide +kernel) (by decide) (fun _ _ h => by rw [h.1]; rfl) (fun _ U U' hal hh h => ⟨h.1, h.2.1.mv hal hh, h.2.2.1.al hal, h.2.2.2.1.al hal, h.2.2.2.2.1.mv hal hh, h.2.2.2.2.2.1.there hal hh, h.2.2.2.2.2.2⟩) (fun r U U' V V' h1 hal h2 h => Got.mv r U U' V V' h1 hal h2 h) ?_
  intro p e s m args below meth c s₁ X0 hexec hbytes hml hret hlk hnm hown hh0 W hP
  obtain ⟨rfl, hB, f1, f2, hA, s1, hz, l0, l1, l2, hp⟩ := hP
  have a31 := hA.1.2.2.2
  have c1 : Steps p.tables e below (s₁.setTop (entryFrame m #[.ref a, .ref b, .int (Int32.ofNat o), .int (Int32.ofNat len), .null] 6)) (s₁.setTop (mkF m 0 #[.val (.ref a), .val (.ref b), .val (.int (Int32.ofNat o)), .val (.int (Int32.ofNat len)), .val .null, .unset] [])) := entry rfl
  have c2 : Steps p.tables e below (s₁.setTop (entryFrame m #[.ref a, .ref b, .int (Int32.ofNat o), .int (Int32.ofNat len), .null] 6)) (s₁.setTop (mkF m 1 #[.val (.ref a), .val (.ref b), .val (.int (Int32.ofNat o)), .val (.int (Int32.ofNat len)), .val .null, .unset] [.ref a])) := c1.trans (by
    refine XS.aloadN X0.here hexec rfl (hb hbytes d0) rfl rfl ?_
    exact Steps.refl _)
  obtain ⟨T3, X3, q3, st3⟩ := X0.oinit hexec hown (wks W (objW "java/lang/String" 1)) (g := (mkF m 1 #[.val (.ref a), .val (.ref b), .val (.int (Int32.ofNat o)), .val (.int (Int32.ofNat len)), .val .null, .unset] [.ref a])) rfl (by rw [hml]; rfl) (rest := []) rfl (hb hbytes d1) (W := 0) (by show 2 * 0 + 0 ≤ _; decide) (Nat.le_of_ble_eq_true rfl) (Nat.le_of_ble_eq_true rfl)
  have hh3 := q3.trans hh0
  have c4 : Steps p.tables e below (s₁.setTop (entryFrame m #[.ref a, .ref b, .int (Int32.ofNat o), .int (Int32.ofNat len), .null] 6)) (T3.setTop (mkF m 27 #[.val (.ref a), .val (.ref b), .val (.int (Int32.ofNat o)), .val (.int (Int32.ofNat len)), .val .null, .unset] [])) := (c2.trans (st3 _ (Steps.refl _))).trans (by
    refine XS.iloadN X3.here hexec rfl (hb hbytes d4) rfl ?_
    refine XS.ifYes X3.here hexec rfl (pc0 := 5) rfl (hb hbytes d5) rfl (i0_ne_t (nz32 (by omega) l0)) (by decide) rfl ?_
    exact Steps.refl _)
  obtain ⟨T5, X5, q5, st5⟩ := X3.sget hexec hown (wk W (.fieldLink "java/lang/String" 38 "java/lang/String" "COMPACT_STRINGS" "Z")) s1 (fun _ _ h => by rw [hh3]; exact h) (g := (mkF m 27 #[.val (.ref a), .val (.ref b), .val (.int (Int32.ofNat o)), .val (.int (Int32.ofNat len)), .val .null, .unset] [])) rfl (hb hbytes d27)
  have hh5 := q5.trans hh3
  have c6 : Steps p.tables e below (s₁.setTop (entryFrame m #[.ref a, .ref b, .int (Int32.ofNat o), .int (Int32.ofNat len), .null] 6)) (T5.setTop (mkF m 30 #[.val (.ref a), .val (.ref b), .val (.int (Int32.ofNat o)), .val (.int (Int32.ofNat len)), .val .null, .unset] [.int z])) := c4.trans (st5 _ (Steps.refl _))
  have c7 : Steps p.tables e below (s₁.setTop (entryFrame m #[.ref a, .ref b, .int (Int32.ofNat o), .int (Int32.ofNat len), .null] 6)) (T5.setTop (mkF m 36 #[.val (.ref a), .val (.ref b), .val (.int (Int32.ofNat o)), .val (.int (Int32.ofNat len)), .val .null, .unset] [.int (Int32.ofNat len), .int (Int32.ofNat o), .ref b])) := c6.trans (by
    refine XS.ifNo X5.here hexec rfl (hb hbytes d30) rfl (i0_eq_f hz) ?_
    refine XS.aloadN X5.here hexec rfl (hb hbytes d33) rfl rfl ?_
    refine XS.iloadN X5.here hexec rfl (hb hbytes d34) rfl ?_
    refine XS.iloadN X5.here hexec rfl (hb hbytes d35) rfl ?_
    exact Steps.refl _)
  obtain ⟨v8, T8, X8, E8, g8⟩ := X5.callS hexec (Cmp3.law l b A o len) hown (wks W (staticW "java/lang/String" 177 Cmp3.yN)) (wk W Cmp3.tab) (W := 0) (Nat.le_of_ble_eq_true rfl) (Nat.le_of_ble_eq_true rfl) (Nat.le_refl _) (by show 0 + len ≤ len; omega) (g := (mkF m 36 #[.val (.ref a), .val (.ref b), .val (.int (Int32.ofNat o)), .val (.int (Int32.ofNat len)), .val .null, .unset] [.int (Int32.ofNat len), .int (Int32.ofNat o), .ref b])) rfl (by rw [hml]; rfl) c7 (argsL := [.ref b, .int (Int32.ofNat o), .int (Int32.ofNat len)]) (rest := []) rfl rfl (by show 2 * 0 + 0 ≤ _; decide) (hb hbytes d36) (⟨rfl, hA.mv X5.warmed.alike hh5, l1, l2, hp⟩)
  obtain ⟨e8, z8⟩ := E8
  obtain ⟨rfl, N, n1, n2, n3, n4, n5, n6⟩ := NewArr.mv _ T5 s _ _ hh5.symm (Vm.Alike.refl _) rfl e8
  rw [hh5] at z8
  have hB1 := hB.keep X8.warmed.alike (n6 _ _ hB.1)
  have hne : s.heap.size ≠ a := (Nat.ne_of_lt (Array.getElem?_eq_some_iff.mp hB.1).1).symm
  have c9 : Steps p.tables e below (s₁.setTop (entryFrame m #[.ref a, .ref b, .int (Int32.ofNat o), .int (Int32.ofNat len), .null] 6)) (T8.setTop (mkF m 39 #[.val (.ref a), .val (.ref b), .val (.int (Int32.ofNat o)), .val (.int (Int32.ofNat len)), .val .null, .unset] [.ref s.heap.size])) := g8
  have c10 : Steps p.tables e below (s₁.setTop (entryFrame m #[.ref a, .ref b, .int (Int32.ofNat o), .int (Int32.ofNat len), .null] 6)) (T8.setTop (mkF m 45 #[.val (.ref a), .val (.ref b), .val (.int (Int32.ofNat o)), .val (.int (Int32.ofNat len)), .val .null, .val (.ref s.heap.size)] [.int (Int32.ofNat N.slots.size), .ref s.heap.size, .ref a])) := by
    have hc : Steps p.tables e below (s₁.setTop (entryFrame m #[.ref a, .ref b, .int (Int32.ofNat o), .int (Int32.ofNat len), .null] 6)) (T8.setTop (mkF m 45 #[.val (.ref a), .val (.ref b), .val (.int (Int32.ofNat o)), .val (.int (Int32.ofNat len)), .val .null, .val (.ref s.heap.size)] [.int (Int32.ofNat len), .ref s.heap.size, .ref a])) := c9.trans (by
      refine XS.astore X8.here hexec rfl (hb hbytes d39) rfl rfl rfl ?_
      refine XS.aloadN X8.here hexec rfl (hb hbytes d41) rfl rfl ?_
      refine XS.aload X8.here hexec rfl (hb hbytes d42) rfl rfl ?_
      refine XS.iloadN X8.here hexec rfl (hb hbytes d44) rfl ?_
      exact Steps.refl _)
    rw [n4]; exact hc
  obtain ⟨v11, T11, X11, E11, g11⟩ := X8.callS hexec (CodL.law l s.heap.size N) hown (wks W (staticW "java/lang/String" 47 CodL.yN)) (wk W CodL.tab) (W := 1) (Nat.le_of_ble_eq_true rfl) (Nat.le_of_ble_eq_true rfl) (Nat.le_refl _) (by show 0 + len + 0 ≤ len; omega) (g := (mkF m 45 #[.val (.ref a), .val (.ref b), .val (.int (Int32.ofNat o)), .val (.int (Int32.ofNat len)), .val .null, .val (.ref s.heap.size)] [.int (Int32.ofNat N.slots.size), .ref s.heap.size, .ref a])) rfl (by rw [hml]; rfl) c10 (argsL := [.ref s.heap.size, .int (Int32.ofNat N.slots.size)]) (rest := [.ref a]) rfl rfl (by show 2 * 0 + (1 + 0) ≤ _; decide) (hb hbytes d45) (⟨rfl, n1⟩)
  obtain ⟨rfl, q11⟩ := E11
  have hB11 := hB1.mv (X8.warmed.alike.symm.trans X11.warmed.alike) q11
  have c12 : Steps p.tables e below (s₁.setTop (entryFrame m #[.ref a, .ref b, .int (Int32.ofNat o), .int (Int32.ofNat len), .null] 6)) (T11.setTop (mkF m 48 #[.val (.ref a), .val (.ref b), .val (.int (Int32.ofNat o)), .val (.int (Int32.ofNat len)), .val .null, .val (.ref s.heap.size)] [.int 0, .ref a])) := g11
  obtain ⟨T13, X13, p13, bl13, sl13, st13⟩ := X11.finit hexec hown (wk W (.fieldLink "java/lang/String" 15 "java/lang/String" "coder" "B")) (Or.inr ⟨_, (wk W (.laysFinal "java/lang/String" "java/lang/String" "coder" "B"))⟩) (Or.inl ⟨rfl, hnm⟩) f2 (Or.inl rfl) hB11 (t := .byte) (by decide +kernel) rfl (g := (mkF m 48 #[.val (.ref a), .val (.ref b), .val (.int (Int32.ofNat o)), .val (.int (Int32.ofNat len)), .val .null, .val (.ref s.heap.size)] [.int 0, .ref a])) rfl (rest := []) rfl (hb hbytes d48)
  have c14 : Steps p.tables e below (s₁.setTop (entryFrame m #[.ref a, .ref b, .int (Int32.ofNat o), .int (Int32.ofNat len), .null] 6)) (T13.setTop (mkF m 54 #[.val (.ref a), .val (.ref b), .val (.int (Int32.ofNat o)), .val (.int (Int32.ofNat len)), .val .null, .val (.ref s.heap.size)] [.ref s.heap.size, .ref a])) := (c12.trans (st13 _ (Steps.refl _))).trans (by
    refine XS.aloadN X13.here hexec rfl (hb hbytes d51) rfl rfl ?_
    refine XS.aload X13.here hexec rfl (hb hbytes d52) rfl rfl ?_
    exact Steps.refl _)
  obtain ⟨T15, X15, p15, bl15, sl15, st15⟩ := X13.finit hexec hown (wk W (.fieldLink "java/lang/String" 9 "java/lang/String" "value" "[B")) (Or.inr ⟨_, (wk W (.laysFinal "java/lang/String" "java/lang/String" "value" "[B"))⟩) (Or.inl ⟨rfl, hnm⟩) f1 (Or.inl rfl) bl13 (t := (.array .byte)) (by decide +kernel) rfl (g := (mkF m 54 #[.val (.ref a), .val (.ref b), .val (.int (Int32.ofNat o)), .val (.int (Int32.ofNat len)), .val .null, .val (.ref s.heap.size)] [.ref s.heap.size, .ref a])) rfl (rest := []) rfl (hb hbytes d54)
  have c16 : Steps p.tables e below (s₁.setTop (entryFrame m #[.ref a, .ref b, .int (Int32.ofNat o), .int (Int32.ofNat len), .null] 6)) (T15.setTop (mkF m 57 #[.val (.ref a), .val (.ref b), .val (.int (Int32.ofNat o)), .val (.int (Int32.ofNat len)), .val .null, .val (.ref s.heap.size)] [])) := c14.trans (st15 _ (Steps.refl _))
  have ap := apart (Or.inr ⟨_, (wk W (.laysFinal "java/lang/String" "java/lang/String" "value" "[B"))⟩) (Or.inr ⟨_, (wk W (.laysFinal "java/lang/String" "java/lang/String" "coder" "B"))⟩) f1 f2 (t₁ := .array .byte) (t₂ := .byte) (by decide +kernel) (by decide +kernel) (by decide)
  have al := X8.warmed.alike.symm.trans X15.warmed.alike
  have n7 : T11.heap[s.heap.size]? = some N := by rw [q11]; exact n1.1
  exact ⟨T15, none, _, _, _, X15, by simp, rfl, by omega, (fun _ => rfl), ⟨rfl, _, N, bl15, ((Same.refl D _).set _ (by simp)).set _ (by simp), sl15, (Cell.slots_setSlot_ne _ ap).trans sl13, n1.keep al (p15.other hne (p13.other hne n7)), n2, by rw [al.findClass]; exact n3, n4, n5, fun y c h1 h2 => p15.other h1 (p13.other h1 (by rw [q11]; exact n6 y c h2)), by rw [p15.2.2, p13.2.2, q11]; exact z8⟩, fun fs hl => c16.trans (X15.returnOut hexec hret (hb hbytes d57) hl)⟩
end New4
namespace New1
def yN : MethodName := ⟨"java/lang/String", "<init>", "([C)V"⟩
abbrev yB : ByteArray := jdk_42_method_3_code
theorem d0 : decode yB 0 = .ok (.aload_n 0, 1) := by decide +kernel
theorem d1 : decode yB 1 = .ok (.aload_n 1, 1) := by decide +kernel
theorem d2 : decode yB 2 = .ok (.iconst 0, 1) := by decide +kernel
theorem d3 : decode yB 3 = .ok (.aload_n 1, 1) := by decide +kernel
theorem d4 : decode yB 4 = .ok (.arraylength, 1) := by decide +kernel
theorem d5 : decode yB 5 = .ok (.aconst_null, 1) := by decide +kernel
theorem d6 : decode yB 6 = .ok (.invokespecial 27, 3) := by decide +kernel
theorem d9 : decode yB 9 = .ok (.return_, 1) := by decide +kernel
def site : List Cond := [New4.tab] ++ initW "java/lang/String" 27 New4.yN
def tab : Cond := tabOf yN yB 2 none site
def P (a : Addr) (D : Cell) (fV fC : Field) (b : Addr) (A : Cell) (z : Int32) (args : Array Value) (s : State) : Prop := args = #[.ref a, .ref b] ∧ Blank "java/lang/String" a D s ∧ Found "java/lang/String" "value" "[B" fV s ∧ Found "java/lang/String" "coder" "B" fC s ∧ Ch b A s ∧ StaticIs s "java/lang/String" "COMPACT_STRINGS" "Z" (.int z) ∧ ¬ z = 0 ∧ 0 < A.slots.size ∧ A.slots.size ≤ 536870912 ∧ ∀ i, i < A.slots.size → ¬ 255 < cv A i
def E (a : Addr) (D : Cell) (fV fC : Field) (A : Cell) (r : Option Value) (s u : State) : Prop := Got a D fV fC A 0 A.slots.size r s u
/-- new String(chars), not empty, no char above 255: a Latin-1 String of their low bytes -/
theorem law (l : Launch) (a : Addr) (D : Cell) (fV fC : Field) (b : Addr) (A : Cell) (z : Int32) : Law l yN 2 1 3 52 yB 2 none site (P a D fV fC b A z) (E a D fV fC A) [⟨a, fC.slot⟩, ⟨a, fV.slot⟩] 1 A.slots.size := by
  refine Law.of_walk (plainFor_of_name (by decide +kernel)) (by decide +kernel) (by decide +kernel) (by decide) (fun _ _ h => by rw [h.1]; rfl) (fun _ U U' hal hh h => ⟨h.1, h.2.1.mv hal hh, h.2.2.1.al hal, h.2.2.2.1.al hal, h.2.2.2.2.1.mv hal hh, h.2.2.2.2.2.1.there hal hh, h.2.2.2.2.2.2⟩) (fun r U U' V V' h1 hal h2 h => Got.mv r U U' V V' h1 hal h2 h) ?_
  intro p e s m args below meth c s₁ X0 hexec hbytes hml hret hlk hnm hown hh0 W hP
  obtain ⟨rfl, hB, f1, f2, hA, s1, hz, l0, l2, hp⟩ := hP
  have c1 : Steps p.tables e below (s₁.setTop (entryFrame m #[.ref a, .ref b] 2)) (s₁.setTop (mkF m 0 #[.val (.ref a), .val (.ref b)] [])) := entry rfl
  have c2 : Steps p.tables e below (s₁.setTop (entryFrame m #[.ref a, .ref b] 2)) (s₁.setTop (mkF m 6 #[.val (.ref a), .val (.ref b)] [.null, .int (Int32.ofNat A.slots.size), .int 0, .ref b, .ref a])) := c1.trans (by
    refine XS.aloadN X0.here hexec rfl (hb hbytes d0) rfl rfl ?_
    refine XS.aloadN X0.here hexec rfl (hb hbytes d1) rfl rfl ?_
    refine iconstV X0.here hexec rfl 0 (hb hbytes d2) (by decide) ?_
    refine XS.aloadN X0.here hexec rfl (hb hbytes d3) rfl rfl ?_
    refine X0.alen hexec (hA.1.mv X0.warmed.alike hh0) rfl rfl (hb hbytes d4) ?_
    refine XS.aconstNull X0.here hexec rfl (hb hbytes d5) ?_
    exact Steps.refl _)
  obtain ⟨v3, T3, X3, E3, g3⟩ := X0.callN hexec (New4.law l a D fV fC b A z 0 A.slots.size) rfl hown (wks W (initW "java/lang/String" 27 New4.yN)) (W New4.tab (by simp only [site, List.mem_cons, List.mem_append, true_or, or_true])) (W := 0) (Nat.le_of_ble_eq_true rfl) (Nat.le_of_ble_eq_true rfl) (Nat.le_refl _) (by show 0 + A.slots.size ≤ A.slots.size; omega) (g := (mkF m 6 #[.val (.ref a), .val (.ref b)] [.null, .int (Int32.ofNat A.slots.size), .int (Int32.ofNat 0), .ref b, .ref a])) rfl (by rw [hml]; rfl) c2 (argsL := [.ref b, .int (Int32.ofNat 0), .int (Int32.ofNat A.slots.size), .null]) (rest := []) rfl rfl (by show 2 * 0 + 0 ≤ _; decide) (hb hbytes d6) (⟨rfl, hB.mv X0.warmed.alike hh0, f1.al X0.warmed.alike, f2.al X0.warmed.alike, hA.mv X0.warmed.alike hh0, s1.there X0.warmed.alike hh0, hz, l0, by omega, l2, fun i hi => by rw [Nat.zero_add]; exact hp i hi⟩)
  have e0 := Got.mv _ s₁ s _ _ hh0.symm (Vm.Alike.refl _) rfl E3
  obtain rfl := e0.1
  have c4 : Steps p.tables e below (s₁.setTop (entryFrame m #[.ref a, .ref b] 2)) (T3.setTop (mkF m 9 #[.val (.ref a), .val (.ref b)] [])) := g3
  exact ⟨T3, none, _, _, _, X3, by simp, rfl, by omega, (fun _ => rfl), e0, fun fs hl => c4.trans (X3.returnOut hexec hret (hb hbytes d9) hl)⟩
theorem pays {l : Launch} {R : Room} {p : Program} {e : Env} {below : List Frame} {s : State} {sargs : Array Value} {len W : Nat} (a : Addr) (D : Cell) (fV fC : Field) (b : Addr) (A : Cell) (z : Int32) (htab : tab.before sargs s = true) (hfr : 4 ≤ R.frames) (hlo : W + 65 ≤ R.locals) :
    Back l R p e below s sargs yN len W (fun A₁ a₁ => A₁.cells + 1 ≤ R.cells ∧ A₁.slots + A.slots.size ≤ R.slots ∧ P a D fV fC b A z a₁ A₁.U) (fun A₁ _ v₁ B₁ => E a D fV fC A v₁ A₁.U B₁.U ∧ B₁.locs = A₁.locs ++ [⟨a, fC.slot⟩, ⟨a, fV.slot⟩] ∧ B₁.cells = A₁.cells + 1 ∧ B₁.slots = A₁.slots + A.slots.size) :=
  (law l a D fV fC b A z).pays htab hfr (by omega)
end New1
end StrChars
namespace StrChars.Road
open Jvm Sem ClassFile Op Lib Jvm.Stand Jvm.Free Jvm.Free.XT
open Jvm.Lib.Cold (StaticIs)
abbrev ST : String := "java/lang/String"
/-- every table word that New1's law asks, flat -/
abbrev words : List Jvm.Cond := [.code New1.yN New1.yB 2 none, .initialized ST, .methodLink ST 27 New4.yN, .instanceMethod New4.yN,
  .code New4.yN New4.yB 6 none, .fieldLink ST 38 ST "COMPACT_STRINGS" "Z", .laysFinal ST ST "value" "[B", .fieldLink ST 9 ST "value" "[B", .laysFinal ST ST "coder" "B", .fieldLink ST 15 ST "coder" "B",
  .methodLink ST 1 Lib.objectInit, .instanceMethod Lib.objectInit, .code Lib.objectInit ⟨#[0xb1]⟩ 1 none, .methodLink ST 177 Cmp3.yN, .static Cmp3.yN, .methodLink ST 47 CodL.yN, .static CodL.yN,
  .code Cmp3.yN Cmp3.yB 6 (some (.array .byte)), .initialized U16, .arrayClass .byte, .methodLink U16 115 Cmp5.yN, .static Cmp5.yN, .code Cmp5.yN Cmp5.yB 7 (some .int), .code CodL.yN CodL.yB 2 (some .byte)]
theorem tab_of {a : Array Value} {s : State} (h : ∀ w ∈ words, w.before a s = true) : New1.tab.before a s = true := by
  have h5 : Cmp5.tab.before a s = true := unparts (wk h (.code Cmp5.yN Cmp5.yB 7 (some .int))) (wks h (.initialized Cmp5.yN.cls :: Cmp5.site))
  have hc : CodL.tab.before a s = true := unparts (wk h (.code CodL.yN CodL.yB 2 (some .byte))) (wks h (.initialized CodL.yN.cls :: CodL.site))
  have q5 : ∀ w ∈ Cmp5.tab :: words, w.before a s = true := fun w hw => (List.mem_cons.mp hw).elim (fun e => e ▸ h5) (h w)
  have h3 : Cmp3.tab.before a s = true := unparts (wk q5 (.code Cmp3.yN Cmp3.yB 6 (some (.array .byte)))) (wks q5 (.initialized Cmp3.yN.cls :: Cmp3.site))
  have q3 : ∀ w ∈ Cmp3.tab :: CodL.tab :: words, w.before a s = true := fun w hw => (List.mem_cons.mp hw).elim (fun e => e ▸ h3) fun hw => (List.mem_cons.mp hw).elim (fun e => e ▸ hc) (h w)
  have h4 : New4.tab.before a s = true := unparts (wk q3 (.code New4.yN New4.yB 6 none)) (wks q3 (.initialized New4.yN.cls :: New4.site))
  have q4 : ∀ w ∈ New4.tab :: words, w.before a s = true := fun w hw => (List.mem_cons.mp hw).elim (fun e => e ▸ h4) (h w)
  exact unparts (wk q4 (.code New1.yN New1.yB 2 none)) (wks q4 (.initialized New1.yN.cls :: New1.site))
/-- the words ride from the start Z to the walk's own state -/
theorem moved {Z s : State} {a0 args : Array Value} (hZ : Z.Warmed39 s.vm) (hw : ∀ d ∈ words, d.before a0 Z = true) : ∀ d ∈ words, d.before args s = true := fun d hd => by
  have q := hw d hd
  have t : ∀ d ∈ words, d = .arrayClass .byte ∨ (d.onTables && d.keepsFace) = true := by decide +kernel
  rcases t d hd with rfl | t
  · exact RoadKit.mvA hZ q
  · exact RoadKit.mv hZ q t
/-- WHAT COMES BACK, over the tables of the start Z: h the heap at the call, h' behind it -/
def Q (Z : State) (x : Addr) (A : Cell) (h : Heap) (v : Option Value) (h' : Heap) (L : List Loc) : Prop := v = none ∧ (∀ y ∈ L, y.base = x) ∧ RoadKit.Keep h h' [x] ∧ h'.size = h.size + 1 ∧ RoadKit.Exa Z h' x ST ∧ RoadKit.Fld Z h' x ST "value" "[B" (.ref h.size) ∧ RoadKit.Fld Z h' x ST "coder" "B" (.int 0) ∧
  (∃ V : Cell, RoadKit.Arr Z h' h.size V .byte ∧ V.vm = .none ∧ Z.vm.findClass "[B" = some V.cls ∧ V.slots.size = A.slots.size ∧ ∀ j, j < A.slots.size → V.slots[j]? = some (.int (lo8 (cv A j)))) ∧
  ∀ (O n d : String) (w : Value), RoadKit.Fld Z h x O n d w → RoadKit.slotOf Z O n d ≠ RoadKit.slotOf Z ST "value" "[B" → RoadKit.slotOf Z O n d ≠ RoadKit.slotOf Z ST "coder" "B" → RoadKit.Fld Z h' x O n d w
/-- **new String(chars) AT A CALL, IN THE ROAD'S FORM**: for specialBack behind newO: x the fresh String, b the char[] with the cell A -/
theorem back {p : Program} {l : Launch} {e : Env} {R : Room} {s : State} {args : Array Value} {below : List Frame} {len W : Nat} {Z : State} {a0 : Array Value} {h : Heap} (hZ : Z.Warmed39 s.vm) (hw : ∀ d ∈ words, d.before a0 Z = true) {kI : Nat} (wi : (Jvm.Cond.instantiable ST kI).before a0 Z = true)
    {x b : Addr} {A : Cell} {z : Int32} {v0 c0 : Value} (E : RoadKit.Exa Z h x ST) (V : RoadKit.Fld Z h x ST "value" "[B" v0) (C : RoadKit.Fld Z h x ST "coder" "B" c0) (K : RoadKit.Arr Z h b A .char) (hty : Typed .char A) (S : RoadKit.Sta Z h ST "COMPACT_STRINGS" "Z" (.int z)) (hz : ¬ z = 0)
    (l0 : 0 < A.slots.size) (l2 : A.slots.size ≤ 536870912) (hp : ∀ i, i < A.slots.size → ¬ 255 < cv A i) (hfr : 4 ≤ R.frames) (hlo : W + 65 ≤ R.locals) :
    Back l R p e below s args New1.yN len W (fun P a => a = #[.ref x, .ref b] ∧ P.U.heap = h ∧ P.cells + 1 ≤ R.cells ∧ P.slots + A.slots.size ≤ R.slots)
      (fun P _ v B => ∃ L, Q Z x A h v B.U.heap L ∧ B.locs = P.locs ++ L ∧ B.cells = P.cells + 1 ∧ B.slots = P.slots + A.slots.size) := by
  intro m meth c P g ig mk a X hg hsize hdg hW hn hp'
  obtain ⟨rfl, rfl, r1, r2⟩ := hp'
  have al : Z.vm.Alike P.U.vm := hZ.alike.trans X.warmed.alike
  obtain ⟨D, cfV, kV, iV, fV, hD, gV, stV, knV, obV, asV, slV⟩ := id V
  obtain ⟨D', cfC, kC, iC, fC, hD', gC, stC, -, -, asC, slC⟩ := id C
  cases hD.symm.trans hD'
  obtain ⟨D2, kD, e1, e2, e3, e4, e5⟩ := id E
  cases hD.symm.trans e1
  obtain ⟨c2, k2, i1, i2, i3, -⟩ := Cond.instantiable_spec wi
  cases e2.symm.trans i1
  cases e3.symm.trans i2
  obtain ⟨kU, u1, u2⟩ := al.2.2 _ _ e3
  have hB : Blank ST x D P.U := ⟨hD, ⟨knV, fun q hq => by rw [hq] at obV; cases obV⟩, by rw [al.findClass]; exact e2, kU, u1, by rw [u2]; exact i3, by rw [u2]; exact e5 i3⟩
  have F1 : Found ST "value" "[B" fV P.U := ⟨SBG.found_only al ⟨cfV, kV, iV, gV⟩, stV⟩
  have F2 : Found ST "coder" "B" fC P.U := ⟨SBG.found_only al ⟨cfC, kC, iC, gC⟩, stC⟩
  have hA : Ch b A P.U := ⟨⟨K.1, State.isArrayOf_alike al K.2.1, K.2.2, by omega⟩, hty⟩
  have hS : StaticIs P.U ST "COMPACT_STRINGS" "Z" (.int z) := by
    obtain ⟨cfS, iS, kS, fS, st, cS, t1, t2, t3, t4, t5, t6, t7⟩ := S
    exact StaticIs.there (s := { Z with heap := P.U.heap }) ⟨cfS, iS, kS, fS, st, cS, t1, t2, t3, t4, t5, (fun q => by rw [q] at t6; cases t6), t7⟩ al rfl
  obtain ⟨v, B, X', ⟨⟨hv, E', V', q1, q2, q3, q4, q5, q6, q7, q8, q9, q10, q11⟩, hl, hc, hs⟩, st⟩ := New1.pays x D fV fC b A z (tab_of (moved hZ hw)) hfr hlo m meth c P g ig mk _ X hg hsize hdg hW hn ⟨r1, r2, rfl, hB, F1, F2, hA, hS, hz, l0, l2, hp⟩
  have al' : Z.vm.Alike B.U.vm := hZ.alike.trans X'.warmed.alike
  have hsz : E'.slots.size = D.slots.size := by
    obtain ⟨-, -, -, kB, w1, w2, w3⟩ := q1
    obtain ⟨kB', y1, y2⟩ := al'.2.2 _ _ e3
    rw [q2.2.1] at w1
    cases w1.symm.trans y1
    rw [w3, e5 i3, y2]
  refine ⟨v, B, X', ⟨_, ⟨hv, ?_, ⟨by omega, fun y cy hy hn' => q10 y cy (by simpa using hn') hy, fun y cy hy => ?_⟩, q11, ⟨E', _, q1.1, by rw [q2.2.1]; exact e2, by rw [q2.2.1]; exact e3, by rw [q2.1]; exact obV, fun _ => by rw [hsz]; exact e5 i3⟩,
    ⟨E', cfV, kV, iV, fV, q1.1, gV, stV, by rw [q2.1]; exact knV, by rw [q2.1]; exact obV, by rw [q2.2.1]; exact asV, q3⟩, ⟨E', cfC, kC, iC, fC, q1.1, gC, stC, by rw [q2.1]; exact knV, by rw [q2.1]; exact obV, by rw [q2.2.1]; exact asC, q4⟩,
    ⟨V', ⟨q5.1, State.isArrayOf_alike al'.symm q5.2.1, q5.2.2.1⟩, q6, by rw [← al'.findClass]; exact q7, q8, fun j hj => by have := q9 j hj; rwa [Nat.zero_add] at this⟩, fun O n d w F n1 n2 => ?_⟩, hl, hc, hs⟩, st⟩
  · intro y hy
    simp only [List.mem_cons, List.not_mem_nil, or_false] at hy
    rcases hy with rfl | rfl <;> rfl
  · by_cases q : y = x
    · subst q
      cases hD.symm.trans hy
      exact ⟨E', q1.1, q2.2.1, q2.1, hsz⟩
    · exact ⟨cy, q10 y cy q hy, rfl, rfl, rfl⟩
  · obtain ⟨D3, cf, k, i, f, g1, g2, g3, g4, g5, g6, g7⟩ := F
    cases hD.symm.trans g1
    simp only [RoadKit.slotOf, g2, gV, gC, Option.map_some, Option.getD_some] at n1 n2
    exact ⟨E', cf, k, i, f, q1.1, g2, g3, by rw [q2.1]; exact g4, by rw [q2.1]; exact g5, by rw [q2.2.1]; exact g6, by rw [q2.2.2 f.slot (by simp [n1, n2])]; exact g7⟩
end StrChars.Road
namespace StrChars.Road
open Jvm Sem ClassFile Op Lib Jvm.Stand Jvm.Free Jvm.Free.XT
/-- WHAT COMES BACK, the byte[] as a list of values -/
def QA (Z : State) (x : Addr) (zn : Int32) (cs : List Int32) (h : Heap) (v : Option Value) (h' : Heap) (L : List Loc) : Prop := v = none ∧ (∀ y ∈ L, y.base = x) ∧ RoadKit.Keep h h' [x] ∧ h'.size = h.size + 1 ∧ RoadKit.Exa Z h' x ST ∧ RoadKit.Fld Z h' x ST "value" "[B" (.ref h.size) ∧ RoadKit.Fld Z h' x ST "coder" "B" (.int 0) ∧
  (∃ kb, Z.vm.findClass "[B" = some kb ∧ RoadKit.Arv Z h' h.size kb .byte zn (cs.map fun c => .int (lo8 c)) (.int 0)) ∧
  ∀ (O n d : String) (w : Value), RoadKit.Fld Z h x O n d w → RoadKit.slotOf Z O n d ≠ RoadKit.slotOf Z ST "value" "[B" → RoadKit.slotOf Z O n d ≠ RoadKit.slotOf Z ST "coder" "B" → RoadKit.Fld Z h' x O n d w
/-- **new String(chars) AT A CALL, THE ARRAYS AS LISTS**: the char[] at b holds cs, not empty, no char above 255 -/
theorem backArv {p : Program} {l : Launch} {e : Env} {R : Room} {s : State} {args : Array Value} {below : List Frame} {len W : Nat} {Z : State} {a0 : Array Value} {h : Heap} (hZ : Z.Warmed39 s.vm) (hw : ∀ d ∈ words, d.before a0 Z = true) {kI : Nat} (wi : (Jvm.Cond.instantiable ST kI).before a0 Z = true)
    {x b : Addr} {k : ClassId} {zn z : Int32} {cs : List Int32} {dv v0 c0 : Value} (E : RoadKit.Exa Z h x ST) (V : RoadKit.Fld Z h x ST "value" "[B" v0) (C : RoadKit.Fld Z h x ST "coder" "B" c0) (K : RoadKit.Arv Z h b k .char zn (cs.map Value.int) dv) (S : RoadKit.Sta Z h ST "COMPACT_STRINGS" "Z" (.int z)) (hz : ¬ z = 0)
    (hlen : zn.toNatClampNeg = cs.length) (h0 : 0 < cs.length) (hbig : cs.length ≤ 536870912) (hall : ∀ c ∈ cs, ¬ 255 < c) (hfr : 4 ≤ R.frames) (hlo : W + 65 ≤ R.locals) :
    Back l R p e below s args New1.yN len W (fun P a => a = #[.ref x, .ref b] ∧ P.U.heap = h ∧ P.cells + 1 ≤ R.cells ∧ P.slots + cs.length ≤ R.slots)
      (fun P _ v B => ∃ L, QA Z x zn cs h v B.U.heap L ∧ B.locs = P.locs ++ L ∧ B.cells = P.cells + 1 ∧ B.slots = P.slots + cs.length) := by
  obtain ⟨A, K1, K2, K3, K4, K5, K6⟩ := K
  have e : A.slots.size = cs.length := K3.trans hlen
  have hat : ∀ (i : Nat) (hi : i < cs.length), A.slots[i]? = some (.int cs[i]) := fun i hi => by rw [K5 i (by omega)]; simp [List.getD_eq_getElem?_getD, hi]
  have hcv : ∀ (i : Nat) (hi : i < cs.length), cv A i = cs[i] := fun i hi => by unfold cv; rw [hat i hi]
  have hty : Typed .char A := fun i v hv => by
    have hi : i < A.slots.size := (Array.getElem?_eq_some_iff.mp hv).1
    have q := K5 i hi
    rw [hv] at q
    rw [Option.some.inj q]
    exact K6 i hi
  refine Back.mono (back hZ hw wi E V C K1 hty S hz (by omega) (by omega) (fun i hi => by rw [hcv i (by omega)]; exact hall _ (List.getElem_mem _)) hfr hlo) (fun P a hp => ⟨hp.1, hp.2.1, hp.2.2.1, by rw [e]; exact hp.2.2.2⟩) (fun P a v B hp hq => ?_)
  obtain ⟨L, ⟨q1, q2, q3, q4, q5, q6, q7, ⟨V', v1, v2, v3, v4, v5⟩, q9⟩, hl, hc, hs⟩ := hq
  refine ⟨L, ⟨q1, q2, q3, q4, q5, q6, q7, ⟨V'.cls, v3, V', v1, rfl, by rw [v4, e, hlen], K4, fun i hi => ?_, fun i hi => ?_⟩, q9⟩, hl, hc, by rw [hs, e]⟩
  · have hi' : i < cs.length := by omega
    rw [v5 i (by omega), hcv i hi']; simp [List.getD_eq_getElem?_getD, hi']
  · have hi' : i < cs.length := by omega
    simp only [List.getD_eq_getElem?_getD, List.getElem?_map, List.getElem?_eq_getElem hi', Option.map_some, Option.getD_some]
    exact fits_lo8 _
end StrChars.Road
namespace StrChars.Road
open Jvm Sem ClassFile Op Lib Jvm.Stand Jvm.Free Jvm.Free.XT
/-- WHAT COMES BACK, in the writer's own shape -/
def QV (Z : State) (x : Addr) (N : Int32) (bs : List Int32) (h : Heap) (n0 : Nat) (v : Option Value) (h' : Heap) (L : List Loc) : Prop := v = none ∧ RoadKit.Fr n0 L ∧ RoadKit.Keep h h' [x] ∧ RoadKit.Exa Z h' x ST ∧ RoadKit.Fld Z h' x ST "coder" "B" (.int 0) ∧
  ∃ (t : Addr) (kb : ClassId), n0 ≤ t ∧ h.size ≤ t ∧ ¬ t = x ∧ RoadKit.Fld Z h' x ST "value" "[B" (.ref t) ∧ RoadKit.Arv Z h' t kb .byte N (bs.map Value.int) (.int 0)
/-- **new String(chars) AT A CALL, FOR THE WRITER**: a char[] of n known ints, each 0 to 255 -/
theorem backV {p : Program} {l : Launch} {e : Env} {R : Room} {s : State} {args : Array Value} {below : List Frame} {len W : Nat} {Z : State} {a0 : Array Value} {h : Heap} (hZ : Z.Warmed39 s.vm) (hw : ∀ d ∈ words, d.before a0 Z = true) {kI : Nat} (wi : (Jvm.Cond.instantiable ST kI).before a0 Z = true)
    {x b : Addr} {kC : ClassId} {cs bs : List Int32} {d v0 c0 : Value} {z N : Int32} {n n0 : Nat} (hx0 : n0 ≤ x) (hh0 : n0 ≤ h.size) (E : RoadKit.Exa Z h x ST) (V : RoadKit.Fld Z h x ST "value" "[B" v0) (C : RoadKit.Fld Z h x ST "coder" "B" c0) (K : RoadKit.Arv Z h b kC .char N (cs.map Value.int) d) (S : RoadKit.Sta Z h ST "COMPACT_STRINGS" "Z" (.int z)) (hz : ¬ z = 0)
    (hn : cs.length = n) (hN : N = Int32.ofNat n) (l0 : 0 < n) (l2 : n ≤ 4000) (hp : ∀ c ∈ cs, ¬ c < 0 ∧ ¬ (255 : Int32) < c) (hb : bs = cs.map (fun c => c.toInt8.toInt32)) (hfr : 4 ≤ R.frames) (hlo : W + 65 ≤ R.locals) :
    Back l R p e below s args (⟨"java/lang/String", "<init>", "([C)V"⟩ : MethodName) len W (fun P a => a = #[.ref x, .ref b] ∧ P.U.heap = h ∧ P.cells + 1 ≤ R.cells ∧ P.slots + n ≤ R.slots)
      (fun P _ v B => ∃ L, QV Z x N bs h n0 v B.U.heap L ∧ B.locs = P.locs ++ L ∧ B.cells = P.cells + 1 ∧ B.slots = P.slots + n) := by
  subst hn hN hb
  refine Back.mono (backArv hZ hw wi E V C K S hz (n32 (by omega)) l0 (by omega) (fun c hc => (hp c hc).2) hfr hlo) (fun P a hp => hp) (fun P a v B hp hq => ?_)
  obtain ⟨L, ⟨q1, q2, q3, q4, q5, q6, q7, ⟨kb, v1, v2⟩, q9⟩, hl, hc, hs⟩ := hq
  exact ⟨L, ⟨q1, fun y hy => by rw [q2 y hy]; exact hx0, q3, q5, q7, h.size, kb, hh0, Nat.le_refl _, Nat.ne_of_gt E.lt, q6, by rw [List.map_map]; exact v2⟩, hl, hc, hs⟩
end StrChars.Road
end Jvm.Pilot.@@N@@

namespace Jvm.Pilot.@@N@@
open Jvm Jvm.ClassFile Sem Op Lib Jvm.Free Jvm.Stand Jvm.LawKit Jvm.RoadKit Bundle Jvm.Pilot.@@N@@.Jvm.D
section Own
variable {p : Program} {l : Launch} {e : Env} {R : Room} {s : State} {m : MethodId} {args : Array Value} {below : List Frame} {meth : Method} {c : Code} {T T' : State} {locs : List Loc} {cells slots : Nat} {Z : State} {h h' : Heap} {P : Option Value → Heap → List Loc → Prop} {cm sm : Nat} {g g' : JFrame}
/-- from where the walk stands the body comes to its end, and P says what it leaves -/
def own_Go (p : Program) (e : Env) (below : List Frame) (s : State) (P : Option Value → Heap → List Loc → Prop) (cm sm : Nat) (T : State) (g : JFrame) : Prop :=
  ∃ s₂ o, Steps p.tables e below (T.setTop g) s₂ ∧ s₂.status = .running ∧ Ended s₂ below o ∧ ∃ v L, o = .returned v ∧ P v s₂.heap L ∧ FrameEnd s o s₂ L cm sm
theorem own_st (st : ∀ t, Steps p.tables e below (T'.setTop g') t → Steps p.tables e below (T.setTop g) t) (k : own_Go p e below s P cm sm T' g') : own_Go p e below s P cm sm T g := by
  obtain ⟨s₂, o, h1, h2⟩ := k; exact ⟨s₂, o, st _ h1, h2⟩
theorem own_tr (st : Steps p.tables e below (T.setTop g) (T'.setTop g')) (k : own_Go p e below s P cm sm T' g') : own_Go p e below s P cm sm T g := own_st (fun _ q => st.trans q) k
theorem own_out (X : Stand p l e R s m args below meth c T locs cells slots) {v : Option Value} (hv : meth.sig.returnType = none → v = none) (hlk : meth.locks = false) (eT : T.heap = h)
    (hret : ∀ fs, (∀ (f : JFrame) (acts : List Action), f.method = m → f.locked = none → f.entered = [] → (doReturn e (T.setTop f) acts v).1 = T.setFrames fs) → Steps p.tables e below (T.setTop g) (T.setFrames fs))
    (hP : P v h locs) (hc : cells ≤ cm) (hs : slots ≤ sm) : own_Go p e below s P cm sm T g := by
  obtain ⟨fs, hr, hrun, hended, hW, hsame⟩ := X.leave hv hlk
  subst eT
  exact ⟨_, _, hret fs hr, hrun, hended, v, locs, rfl, hP, ⟨_, rfl⟩, hW, hsame.mono hc hs⟩
theorem own_retI (X : Stand p l e R s m args below meth c T locs cells slots) (hx : p.tables.exec = Jvm.exec) (hret : meth.sig.returnType = some .int) (hlk : meth.locks = false) (eT : T.heap = h) {pc : Nat} {Ls : Array Slot} {z : Int32} {rest : List Value} (hd : decode c.code pc = .ok (.ireturn, 1))
    (hP : P (some (.int z)) h locs) (hc : cells ≤ cm) (hs : slots ≤ sm) : own_Go p e below s P cm sm T (mkF m pc Ls (.int z :: rest)) :=
  own_out X (fun q => by rw [hret] at q; cases q) hlk eT (fun fs hr => retOut X hx hret rfl (Or.inl ⟨rfl, Or.inl rfl, z, rfl⟩) hd hr) hP hc hs
theorem own_retN (X : Stand p l e R s m args below meth c T locs cells slots) (hx : p.tables.exec = Jvm.exec) {t : FieldType} (hret : meth.sig.returnType = some t) (hlk : meth.locks = false) (eT : T.heap = h) (ht : t = .boolean ∨ t = .byte ∨ t = .char ∨ t = .short) {pc : Nat} {Ls : Array Slot} {z : Int32} {rest : List Value} (hd : decode c.code pc = .ok (.ireturn, 1))
    (hP : P (some (.int (nar t z))) h locs) (hc : cells ≤ cm) (hs : slots ≤ sm) : own_Go p e below s P cm sm T (mkF m pc Ls (.int z :: rest)) :=
  own_out X (fun q => by rw [hret] at q; cases q) hlk eT (fun fs hr => retN X hx hret ht hd hr) hP hc hs
theorem own_retJ (X : Stand p l e R s m args below meth c T locs cells slots) (hx : p.tables.exec = Jvm.exec) (hret : meth.sig.returnType = some .long) (hlk : meth.locks = false) (eT : T.heap = h) {pc : Nat} {Ls : Array Slot} {z : Int64} {rest : List Value} (hd : decode c.code pc = .ok (.lreturn, 1))
    (hP : P (some (.long z)) h locs) (hc : cells ≤ cm) (hs : slots ≤ sm) : own_Go p e below s P cm sm T (mkF m pc Ls (.long z :: rest)) :=
  own_out X (fun q => by rw [hret] at q; cases q) hlk eT (fun fs hr => retOut X hx hret rfl (Or.inr (Or.inl ⟨rfl, rfl, z, rfl⟩)) hd hr) hP hc hs
theorem own_retR (X : Stand p l e R s m args below meth c T locs cells slots) (hx : p.tables.exec = Jvm.exec) {t : FieldType} (hret : meth.sig.returnType = some t) (hlk : meth.locks = false) (eT : T.heap = h) (ht : t.isReference = true) {pc : Nat} {Ls : Array Slot} {w : Value} (hw : w.isRef = true) {rest : List Value} (hd : decode c.code pc = .ok (.areturn, 1))
    (hP : P (some w) h locs) (hc : cells ≤ cm) (hs : slots ≤ sm) : own_Go p e below s P cm sm T (mkF m pc Ls (w :: rest)) :=
  own_out X (fun q => by rw [hret] at q; cases q) hlk eT (fun fs hr => retOut X hx hret (by cases t <;> cases w <;> first | rfl | (simp [Value.isRef] at hw; done) | (simp [FieldType.isReference] at ht; done)) (Or.inr (Or.inr (Or.inr (Or.inr ⟨rfl, ht, hw⟩)))) hd hr) hP hc hs
theorem own_ret0 (X : Stand p l e R s m args below meth c T locs cells slots) (hx : p.tables.exec = Jvm.exec) (hret : meth.sig.returnType = none) (hlk : meth.locks = false) (eT : T.heap = h) {pc : Nat} {Ls : Array Slot} (hd : decode c.code pc = .ok (.return_, 1))
    (hP : P none h locs) (hc : cells ≤ cm) (hs : slots ≤ sm) : own_Go p e below s P cm sm T (mkF m pc Ls []) :=
  own_out X (fun _ => rfl) hlk eT (fun fs hr => X.returnOut hx hret hd hr) hP hc hs
/-- an array by its length and what each place holds -/
def own_Av (Z : State) (h : Heap) (a : Addr) (k : ClassId) (ty : FieldType) (n : Nat) (f : Nat → Value) : Prop := ∃ cl : Cell, Arr Z h a cl ty ∧ cl.cls = k ∧ cl.slots.size = n ∧ ∀ j, j < n → cl.slots[j]? = some (f j)
variable {a b : Addr} {k : ClassId} {ty : FieldType} {n i sl : Nat} {f : Nat → Value} {v w : Value} {ws : List Addr} {z j x : Int32} {rest : List Value}
theorem own_Av.lt (F : own_Av Z h a k ty n f) : a < h.size := by obtain ⟨cl, A, -⟩ := F; exact A.lt
theorem own_Av.ext (F : own_Av Z h a k ty n f) (E : Ext h h') : own_Av Z h' a k ty n f := by obtain ⟨cl, A, r⟩ := F; exact ⟨cl, A.ext E, r⟩
theorem own_Av.other (F : own_Av Z h b k ty n f) (W : Wr h h' a sl v) (q : b ≠ a) : own_Av Z h' b k ty n f := by obtain ⟨cl, A, r⟩ := F; exact ⟨cl, A.other W q, r⟩
theorem own_Av.keep (F : own_Av Z h a k ty n f) (K : Keep h h' ws) (q : a ∉ ws) : own_Av Z h' a k ty n f := by obtain ⟨cl, A, r⟩ := F; exact ⟨cl, ⟨K.2.1 a cl A.1 q, A.2⟩, r⟩
theorem own_Av.new (A : Arr Z h a (newA k ty z) ty) (hz : z.toNatClampNeg = n) : own_Av Z h a k ty n (fun _ => defaultValue ty) := ⟨_, A, rfl, (sz_new _ _ _).trans hz, fun q hq => by
  subst hz; simp [newA, hq]⟩
theorem own_Av.set (F : own_Av Z h a k ty n f) (W : Wr h h' a i v) (hi : i < n) : own_Av Z h' a k ty n (fun q => if q = i then v else f q) := by
  obtain ⟨cl, A, r1, r2, r3⟩ := F
  refine ⟨_, A.same W, r1, by rw [sz_set]; exact r2, fun q hq => ?_⟩
  by_cases u : q = i
  · subst u; simp [Cell.setSlot, r2, hi]
  · have := r3 q hq; simp only [Cell.setSlot, u, if_false]; rw [Array.getElem?_setIfInBounds_ne (Ne.symm u)]; exact this
theorem own_Av.to {f' : Nat → Value} (F : own_Av Z h a k ty n f) (q : ∀ j, j < n → f j = f' j) : own_Av Z h a k ty n f' := by
  obtain ⟨cl, A, r1, r2, r3⟩ := F; exact ⟨cl, A, r1, r2, fun j hj => by rw [← q j hj]; exact r3 j hj⟩
theorem own_idx (hj : j.toInt = i) : j.toNatClampNeg = i := by simp [Int32.toNatClampNeg, hj]
theorem own_inb {cl : Cell} (hj : j.toInt = i) (hs : cl.slots.size = n) (hi : i < n) : ¬ (j < 0 ∨ cl.slots.size ≤ j.toNatClampNeg) := by
  rw [own_idx hj, hs, Int32.lt_iff_toInt_lt, hj]; have : (0 : Int32).toInt = 0 := rfl; omega
theorem own_stC (X : Stand p l e R s m args below meth c T locs cells slots) (hx : p.tables.exec = Jvm.exec) (hZ : Z.Warmed39 s.vm) (eT : T.heap = h) (F : own_Av Z h a k .char n f) (hj : j.toInt = i) (hi : i < n) (hg : g.method = m) (hs : g.stack = .int x :: .int j :: .ref a :: rest) (hd : decode c.code g.pc = .ok (.castore, 1)) :
    ∃ T' h', Stand p l e R s m args below meth c T' (locs ++ [⟨a, i⟩]) cells slots ∧ T'.heap = h' ∧ Wr h h' a i (.int (nar .char x)) ∧ own_Av Z h' a k .char n (fun q => if q = i then .int (nar .char x) else f q) ∧ ∀ target, Steps p.tables e below (T'.setTop { g with pc := g.pc + 1, stack := rest }) target → Steps p.tables e below (T.setTop g) target := by
  obtain ⟨cl, A, r1, r2, r3⟩ := F
  obtain ⟨T', h', X', e', W, st⟩ := stC X hx hZ eT A (own_inb hj r2 hi) hg hs hd
  rw [own_idx hj] at X' W
  exact ⟨T', h', X', e', W, own_Av.set ⟨cl, A, r1, r2, r3⟩ W hi, st⟩
theorem own_stB (X : Stand p l e R s m args below meth c T locs cells slots) (hx : p.tables.exec = Jvm.exec) (hZ : Z.Warmed39 s.vm) (eT : T.heap = h) (F : own_Av Z h a k .byte n f) (hj : j.toInt = i) (hi : i < n) (hg : g.method = m) (hs : g.stack = .int x :: .int j :: .ref a :: rest) (hd : decode c.code g.pc = .ok (.bastore, 1)) :
    ∃ T' h', Stand p l e R s m args below meth c T' (locs ++ [⟨a, i⟩]) cells slots ∧ T'.heap = h' ∧ Wr h h' a i (.int (nar .byte x)) ∧ own_Av Z h' a k .byte n (fun q => if q = i then .int (nar .byte x) else f q) ∧ ∀ target, Steps p.tables e below (T'.setTop { g with pc := g.pc + 1, stack := rest }) target → Steps p.tables e below (T.setTop g) target := by
  obtain ⟨cl, A, r1, r2, r3⟩ := F
  obtain ⟨T', h', X', e', W, st⟩ := stB X hx hZ eT A (own_inb hj r2 hi) hg hs hd
  rw [own_idx hj] at X' W
  exact ⟨T', h', X', e', W, own_Av.set ⟨cl, A, r1, r2, r3⟩ W hi, st⟩
theorem own_stI (X : Stand p l e R s m args below meth c T locs cells slots) (hx : p.tables.exec = Jvm.exec) (hZ : Z.Warmed39 s.vm) (eT : T.heap = h) (F : own_Av Z h a k .int n f) (hj : j.toInt = i) (hi : i < n) (hg : g.method = m) (hs : g.stack = .int x :: .int j :: .ref a :: rest) (hd : decode c.code g.pc = .ok (.iastore, 1)) :
    ∃ T' h', Stand p l e R s m args below meth c T' (locs ++ [⟨a, i⟩]) cells slots ∧ T'.heap = h' ∧ Wr h h' a i (.int x) ∧ own_Av Z h' a k .int n (fun q => if q = i then .int x else f q) ∧ ∀ target, Steps p.tables e below (T'.setTop { g with pc := g.pc + 1, stack := rest }) target → Steps p.tables e below (T.setTop g) target := by
  obtain ⟨cl, A, r1, r2, r3⟩ := F
  obtain ⟨T', h', X', e', W, st⟩ := stI X hx hZ eT A (own_inb hj r2 hi) hg hs hd
  rw [own_idx hj] at X' W
  exact ⟨T', h', X', e', W, own_Av.set ⟨cl, A, r1, r2, r3⟩ W hi, st⟩
theorem own_stJ {y : Int64} (X : Stand p l e R s m args below meth c T locs cells slots) (hx : p.tables.exec = Jvm.exec) (hZ : Z.Warmed39 s.vm) (eT : T.heap = h) (F : own_Av Z h a k .long n f) (hj : j.toInt = i) (hi : i < n) (hg : g.method = m) (hs : g.stack = .long y :: .int j :: .ref a :: rest) (hd : decode c.code g.pc = .ok (.lastore, 1)) :
    ∃ T' h', Stand p l e R s m args below meth c T' (locs ++ [⟨a, i⟩]) cells slots ∧ T'.heap = h' ∧ Wr h h' a i (.long y) ∧ own_Av Z h' a k .long n (fun q => if q = i then .long y else f q) ∧ ∀ target, Steps p.tables e below (T'.setTop { g with pc := g.pc + 1, stack := rest }) target → Steps p.tables e below (T.setTop g) target := by
  obtain ⟨cl, A, r1, r2, r3⟩ := F
  obtain ⟨T', h', X', e', W, st⟩ := stJ X hx hZ eT A (own_inb hj r2 hi) hg hs hd
  rw [own_idx hj] at X' W
  exact ⟨T', h', X', e', W, own_Av.set ⟨cl, A, r1, r2, r3⟩ W hi, st⟩
theorem own_stR {C : String} (X : Stand p l e R s m args below meth c T locs cells slots) (hx : p.tables.exec = Jvm.exec) (hZ : Z.Warmed39 s.vm) (eT : T.heap = h) (F : own_Av Z h a k (.object C) n f) (O : Ovr Z k C) (I : v = .null ∨ ∃ y, v = .ref y ∧ Ins Z h y C true) (hj : j.toInt = i) (hi : i < n) (hg : g.method = m) (hs : g.stack = v :: .int j :: .ref a :: rest) (hd : decode c.code g.pc = .ok (.aastore, 1)) :
    ∃ T' h', Stand p l e R s m args below meth c T' (locs ++ [⟨a, i⟩]) cells slots ∧ T'.heap = h' ∧ Wr h h' a i v ∧ own_Av Z h' a k (.object C) n (fun q => if q = i then v else f q) ∧ ∀ target, Steps p.tables e below (T'.setTop { g with pc := g.pc + 1, stack := rest }) target → Steps p.tables e below (T.setTop g) target := by
  obtain ⟨cl, A, r1, r2, r3⟩ := F
  have St : Sto Z h a v := by
    rcases I with rfl | ⟨y, rfl, I⟩
    · exact Or.inl rfl
    · exact Sto.ofV A r1 O I
  obtain ⟨T', h', X', e', W, st⟩ := stR X hx hZ eT A (own_inb hj r2 hi) rfl St hg hs hd
  rw [own_idx hj] at X' W
  exact ⟨T', h', X', e', W, own_Av.set ⟨cl, A, r1, r2, r3⟩ W hi, st⟩
theorem own_stS (X : Stand p l e R s m args below meth c T locs cells slots) (hx : p.tables.exec = Jvm.exec) (hZ : Z.Warmed39 s.vm) (eT : T.heap = h) (F : own_Av Z h a k ty n f) (hty : ty.isReference = true) (So : ∀ cl : Cell, Arr Z h a cl ty → cl.cls = k → Sto Z h a v) (hj : j.toInt = i) (hi : i < n) (hg : g.method = m) (hs : g.stack = v :: .int j :: .ref a :: rest) (hd : decode c.code g.pc = .ok (.aastore, 1)) :
    ∃ T' h', Stand p l e R s m args below meth c T' (locs ++ [⟨a, i⟩]) cells slots ∧ T'.heap = h' ∧ Wr h h' a i v ∧ own_Av Z h' a k ty n (fun q => if q = i then v else f q) ∧ ∀ target, Steps p.tables e below (T'.setTop { g with pc := g.pc + 1, stack := rest }) target → Steps p.tables e below (T.setTop g) target := by
  obtain ⟨cl, A, r1, r2, r3⟩ := F
  obtain ⟨T', h', X', e', W, st⟩ := stR X hx hZ eT A (own_inb hj r2 hi) hty (So cl A r1) hg hs hd
  rw [own_idx hj] at X' W
  exact ⟨T', h', X', e', W, own_Av.set ⟨cl, A, r1, r2, r3⟩ W hi, st⟩
theorem own_ldC (X : Stand p l e R s m args below meth c T locs cells slots) (hx : p.tables.exec = Jvm.exec) (hZ : Z.Warmed39 s.vm) (eT : T.heap = h) (F : own_Av Z h a k .char n f) (hj : j.toInt = i) (hi : i < n) (hv : f i = v) (hg : g.method = m) (hs : g.stack = .int j :: .ref a :: rest) (hd : decode c.code g.pc = .ok (.caload, 1)) (target : State)
    (hr : Steps p.tables e below (T.setTop { g with pc := g.pc + 1, stack := v :: rest }) target) : Steps p.tables e below (T.setTop g) target := by
  obtain ⟨cl, A, r1, r2, r3⟩ := F
  exact X.caload hx (by rw [eT]; exact A.1) (State.isArrayOf_alike hZ.alike A.2.1) A.2.2 (own_inb hj r2 hi) (by rw [own_idx hj, r3 i hi, hv]) hg hs hd target hr
theorem own_ldB (X : Stand p l e R s m args below meth c T locs cells slots) (hx : p.tables.exec = Jvm.exec) (hZ : Z.Warmed39 s.vm) (eT : T.heap = h) (F : own_Av Z h a k .byte n f) (hj : j.toInt = i) (hi : i < n) (hv : f i = v) (hg : g.method = m) (hs : g.stack = .int j :: .ref a :: rest) (hd : decode c.code g.pc = .ok (.baload, 1)) (target : State)
    (hr : Steps p.tables e below (T.setTop { g with pc := g.pc + 1, stack := v :: rest }) target) : Steps p.tables e below (T.setTop g) target := by
  obtain ⟨cl, A, r1, r2, r3⟩ := F
  exact X.baloadBytes hx (by rw [eT]; exact A.1) (State.isArrayOf_alike hZ.alike A.2.1) A.2.2 (own_inb hj r2 hi) (by rw [own_idx hj, r3 i hi, hv]) hg hs hd target hr
theorem own_ldI (X : Stand p l e R s m args below meth c T locs cells slots) (hx : p.tables.exec = Jvm.exec) (hZ : Z.Warmed39 s.vm) (eT : T.heap = h) (F : own_Av Z h a k .int n f) (hj : j.toInt = i) (hi : i < n) (hv : f i = v) (hg : g.method = m) (hs : g.stack = .int j :: .ref a :: rest) (hd : decode c.code g.pc = .ok (.iaload, 1)) (target : State)
    (hr : Steps p.tables e below (T.setTop { g with pc := g.pc + 1, stack := v :: rest }) target) : Steps p.tables e below (T.setTop g) target := by
  obtain ⟨cl, A, r1, r2, r3⟩ := F
  exact X.iaload hx (by rw [eT]; exact A.1) (State.isArrayOf_alike hZ.alike A.2.1) A.2.2 (own_inb hj r2 hi) (by rw [own_idx hj, r3 i hi, hv]) hg hs hd target hr
theorem own_ldR (X : Stand p l e R s m args below meth c T locs cells slots) (hx : p.tables.exec = Jvm.exec) (hZ : Z.Warmed39 s.vm) (eT : T.heap = h) (F : own_Av Z h a k ty n f) (hty : ty.isReference = true) (hj : j.toInt = i) (hi : i < n) (hv : f i = v) (hg : g.method = m) (hs : g.stack = .int j :: .ref a :: rest) (hd : decode c.code g.pc = .ok (.aaload, 1)) (target : State)
    (hr : Steps p.tables e below (T.setTop { g with pc := g.pc + 1, stack := v :: rest }) target) : Steps p.tables e below (T.setTop g) target := by
  obtain ⟨cl, A, r1, r2, r3⟩ := F
  exact X.aaload hx (by rw [eT]; exact A.1) (State.isArrayOf_alike hZ.alike A.2.1) hty A.2.2 (own_inb hj r2 hi) (by rw [own_idx hj, r3 i hi, hv]) hg hs hd target hr
theorem own_len (X : Stand p l e R s m args below meth c T locs cells slots) (hx : p.tables.exec = Jvm.exec) (hZ : Z.Warmed39 s.vm) (eT : T.heap = h) (F : own_Av Z h a k ty n f) (hz : n.toInt32 = z) (hg : g.method = m) (hs : g.stack = .ref a :: rest) (hd : decode c.code g.pc = .ok (.arraylength, 1)) (target : State)
    (hr : Steps p.tables e below (T.setTop { g with pc := g.pc + 1, stack := .int z :: rest }) target) : Steps p.tables e below (T.setTop g) target := by
  obtain ⟨cl, A, r1, r2, r3⟩ := F
  exact X.arraylength hx (by rw [eT]; exact A.1) (State.isArrayOf_alike hZ.alike A.2.1) hg hs hd target (by rw [r2, hz]; exact hr)
theorem own_ne (q : a < h.size) (r : b = h.size) : a ≠ b := Nat.ne_of_lt (Nat.lt_of_lt_of_le q (Nat.le_of_eq r.symm))
theorem own_ne2 (q : a < h.size) (r : h.size ≤ b) : a ≠ b := Nat.ne_of_lt (Nat.lt_of_lt_of_le q r)
theorem own_ge {n0 : Nat} (q : n0 ≤ h.size) (r : b = h.size) : n0 ≤ b := Nat.le_trans q (Nat.le_of_eq r.symm)
theorem own_store1 {L : Array Slot} {o : Slot} (hv : v.isRef = true) (hold : L[i]? = some o) (ho : o = .unset ∨ ∃ w, o = .val w ∧ w.category = 1) : storeLocals L i v = some (L.setIfInBounds i (.val v)) := XS.store1 hold ho (Jvm.Free.XT.cat1 hv)
theorem own_nref (ht : ty.isReference = true) (hv : v.isRef = true) : narrow ty v = v := by cases ty <;> cases v <;> first | rfl | (simp [Value.isRef] at hv; done) | (simp [FieldType.isReference] at ht; done)
theorem own_fref (ht : ty.isReference = true) (hv : v.isRef = true) : fits ty v = true := by cases ty <;> cases v <;> first | rfl | (simp [Value.isRef] at hv; done) | (simp [FieldType.isReference] at ht; done)
theorem own_fldI {t : Term} {C nm d : String} (ev : t.eval args s none [] s = some (.ref a)) (hq : (Cond.eq (Term.field t C nm d) (Term.int z)).value args s none s [] = some true) : Fld s s.heap a C nm d (.int z) := by
  obtain ⟨x, y, hx, hy, -, -⟩ := cmp_v (Or.inl hq)
  obtain rfl : y = .int z := (Option.some.inj hy).symm
  have : x = .int z := by simp only [Cond.value, hx, hy] at hq; cases x <;> simp at hq ⊢; exact hq
  rw [fld_at ev] at hx
  exact Fld.start (this ▸ hx)
theorem own_fldJ {t : Term} {C nm d : String} {z : Int64} (ev : t.eval args s none [] s = some (.ref a)) (hq : (Cond.eq (Term.field t C nm d) (Term.long z)).value args s none s [] = some true) : Fld s s.heap a C nm d (.long z) := by
  obtain ⟨x, y, hx, hy, -, -⟩ := cmp_v (Or.inl hq)
  obtain rfl : y = .long z := (Option.some.inj hy).symm
  have : x = .long z := by simp only [Cond.value, hx, hy] at hq; cases x <;> simp at hq ⊢; exact hq
  rw [fld_at ev] at hx
  exact Fld.start (this ▸ hx)
theorem own_fldN {t : Term} {C nm d : String} (ev : t.eval args s none [] s = some (.ref a)) (hq : (Cond.eq (Term.field t C nm d) Term.null).value args s none s [] = some true) : Fld s s.heap a C nm d .null := by
  have hx := null_v hq
  rw [fld_at ev] at hx
  exact Fld.start hx
theorem own_selP {y : MethodName} {nn : Nat} {a0 : Array Value} (hZ : Z.Warmed39 s.vm) (wi : (Cond.instantiable y.cls nn).before a0 Z = true) (wp : (Cond.privateMethod y).before a0 Z = true) (wm : (Cond.instanceMethod y).before a0 Z = true) (hy : y.cls ≠ "java/lang/invoke/MethodHandle" ∧ y.cls ≠ "java/lang/invoke/VarHandle") : (Cond.selects y.cls y y).before args s = true := by
  obtain ⟨c', k', h1, h2, -, h4, -⟩ := Cond.instantiable_spec (mv (args := args) hZ wi : (Cond.instantiable y.cls nn).before args s = true)
  exact selects_self_of_private h1 h2 (by simp at h4; exact h4.1) (Cond.privateMethod_at (mvP hZ wp (args := args))) (mv hZ wm) hy
theorem own_insK {C : String} (I : Ins Z h a C true) (K : Keep h h' ws) : Ins Z h' a C true := by
  obtain ⟨cell, cT, h1, h2, h3⟩ := I
  obtain ⟨c', q, r1, r2, r3⟩ := K.2.2 a cell h1
  exact ⟨c', cT, q, h2, by rw [r1, r2]; exact h3⟩
theorem own_len0 {cl : Cell} {t : Term} (A : Arr s s.heap a cl ty) (ev : t.eval args s none [] s = some (.ref a)) (hq : (Cond.eq (Term.length t) (Term.int 0)).value args s none s [] = some true) : own_Av s s.heap a cl.cls ty 0 (fun _ => .null) := by
  obtain ⟨x, y, hx, hy, -, -⟩ := cmp_v (Or.inl hq)
  obtain rfl : y = .int 0 := (Option.some.inj hy).symm
  have : x = .int 0 := by simp only [Cond.value, hx, hy] at hq; cases x <;> simp at hq ⊢; exact hq
  subst this
  refine ⟨cl, A, rfl, ?_, fun j hj => absurd hj (Nat.not_lt_zero _)⟩
  have ha := Arr.fin (Vm.Alike.refl _) A
  simp only [Term.eval, ev, Option.bind_some, ha, Option.bind_eq_bind] at hx
  split at hx
  · rename_i hl
    have e := Value.int.inj (Option.some.inj hx)
    have e2 : (cl.slots.size.toInt32).toInt = 0 := by rw [e]; rfl
    rw [len_toInt hl] at e2; omega
  · cases hx
theorem own_frnil {L : List Loc} (n0 : Nat) (h : L = []) : Fr n0 L := by rw [h]; exact Fr.nil n0
theorem own_fitC {q : Int32} (h1 : ¬ q < 0) (h2 : ¬ (255 : Int32) < q) : fits .char (.int q) = true := by
  have e0 : (0 : Int32).toInt = 0 := rfl
  have e1 : (255 : Int32).toInt = 255 := rfl
  have e2 : (65535 : Int32).toInt = 65535 := rfl
  rw [Int32.lt_iff_toInt_lt] at h1 h2
  simp only [fits, Bool.and_eq_true, decide_eq_true_eq, Int32.le_iff_toInt_le]; omega
theorem own_Av.arv {cs : List Int32} (F : own_Av Z h a k .char n f) (hz : z.toNatClampNeg = n) (hz0 : ¬ z < 0) (hl : cs.length = n) (hf : ∀ i, i < n → f i = .int (cs.getD i 0)) (hp : ∀ q ∈ cs, ¬ q < 0 ∧ ¬ (255 : Int32) < q) : Arv Z h a k .char z (cs.map Value.int) (.int 0) := by
  obtain ⟨cl, A, r1, r2, r3⟩ := F
  have e : ∀ i, (cs.map Value.int).getD i (.int 0) = .int (cs.getD i 0) := fun i => by
    simp only [List.getD_eq_getElem?_getD, List.getElem?_map]; cases cs[i]? <;> rfl
  refine ⟨cl, A, r1, by rw [r2, hz], hz0, fun i hi => by rw [e, ← hf i (r2 ▸ hi)]; exact r3 i (r2 ▸ hi), fun i hi => ?_⟩
  rw [e]
  have hi' : i < cs.length := by rw [hl, ← r2]; exact hi
  have q := hp (cs[i]) (List.getElem_mem hi')
  rw [List.getD_eq_getElem?_getD, List.getElem?_eq_getElem hi']
  exact own_fitC q.1 q.2
end Own
section OwnCold
variable {p : Program} {l : Launch} {e : Env} {R : Room} {s : State} {m : MethodId} {args : Array Value} {below : List Frame} {meth : Method} {c : Code} {T T' : State} {locs : List Loc} {cells slots : Nat} {Z : State} {h h' : Heap} {P : Option Value → Heap → List Loc → Prop} {cm sm : Nat} {g g' : JFrame} {vm1 : Vm} {k0 : Nat}
/-- as own_Go, where literals may be interned on the way -/
def own_GoW (p : Program) (e : Env) (below : List Frame) (s : State) (P : Option Value → Heap → List Loc → Prop) (cm sm : Nat) (T : State) (g : JFrame) : Prop :=
  ∃ s₂ o, Steps p.tables e below (T.setTop g) s₂ ∧ s₂.status = .running ∧ Ended s₂ below o ∧ ∃ v L, o = .returned v ∧ P v s₂.heap L ∧ ReturnedEndW s o s₂ L cm sm
theorem own_stW (st : ∀ t, Steps p.tables e below (T'.setTop g') t → Steps p.tables e below (T.setTop g) t) (k : own_GoW p e below s P cm sm T' g') : own_GoW p e below s P cm sm T g := by
  obtain ⟨s₂, o, h1, h2⟩ := k; exact ⟨s₂, o, st _ h1, h2⟩
theorem own_trW (st : Steps p.tables e below (T.setTop g) (T'.setTop g')) (k : own_GoW p e below s P cm sm T' g') : own_GoW p e below s P cm sm T g := own_stW (fun _ q => st.trans q) k
theorem own_monoW {t : State} {o : Outcome} {L : List Loc} {k n : Nat} (h : ReturnedEndW s o t L k n) (hc : k ≤ cm) (hs : n ≤ sm) : ReturnedEndW s o t L cm sm := ⟨h.1, h.2.1, h.2.2.1, h.2.2.2.mono hc hs⟩
theorem own_outW (X : Stand p l e R (s.setVm vm1) m args below meth c T locs cells slots) (hS : s.Since vm1 k0) {v : Option Value} (hv : meth.sig.returnType = none → v = none) (hlk : meth.locks = false) (eT : T.heap = h) (hk : k0 ≤ h.size)
    (hret : ∀ fs, (∀ (f : JFrame) (acts : List Action), f.method = m → f.locked = none → f.entered = [] → (doReturn e (T.setTop f) acts v).1 = T.setFrames fs) → Steps p.tables e below (T.setTop g) (T.setFrames fs))
    (hP : P v h locs) (hc : cells ≤ cm) (hs : slots ≤ sm) : own_GoW p e below s P cm sm T g := by
  subst eT
  obtain ⟨fs, hr, hrun, hended, hW⟩ := X.leaveW hS hk hv hlk
  exact ⟨_, _, hret fs hr, hrun, hended, v, locs, rfl, hP, own_monoW hW hc hs⟩
theorem own_retIW (X : Stand p l e R (s.setVm vm1) m args below meth c T locs cells slots) (hS : s.Since vm1 k0) (hx : p.tables.exec = Jvm.exec) (hret : meth.sig.returnType = some .int) (hlk : meth.locks = false) (eT : T.heap = h) (hk : k0 ≤ h.size) {pc : Nat} {Ls : Array Slot} {z : Int32} {rest : List Value} (hd : decode c.code pc = .ok (.ireturn, 1))
    (hP : P (some (.int z)) h locs) (hc : cells ≤ cm) (hs : slots ≤ sm) : own_GoW p e below s P cm sm T (mkF m pc Ls (.int z :: rest)) :=
  own_outW X hS (fun q => by rw [hret] at q; cases q) hlk eT hk (fun fs hr => retOut X hx hret rfl (Or.inl ⟨rfl, Or.inl rfl, z, rfl⟩) hd hr) hP hc hs
theorem own_retNW (X : Stand p l e R (s.setVm vm1) m args below meth c T locs cells slots) (hS : s.Since vm1 k0) (hx : p.tables.exec = Jvm.exec) {t : FieldType} (hret : meth.sig.returnType = some t) (hlk : meth.locks = false) (eT : T.heap = h) (hk : k0 ≤ h.size) (ht : t = .boolean ∨ t = .byte ∨ t = .char ∨ t = .short) {pc : Nat} {Ls : Array Slot} {z : Int32} {rest : List Value} (hd : decode c.code pc = .ok (.ireturn, 1))
    (hP : P (some (.int (nar t z))) h locs) (hc : cells ≤ cm) (hs : slots ≤ sm) : own_GoW p e below s P cm sm T (mkF m pc Ls (.int z :: rest)) :=
  own_outW X hS (fun q => by rw [hret] at q; cases q) hlk eT hk (fun fs hr => retN X hx hret ht hd hr) hP hc hs
theorem own_retRW (X : Stand p l e R (s.setVm vm1) m args below meth c T locs cells slots) (hS : s.Since vm1 k0) (hx : p.tables.exec = Jvm.exec) {t : FieldType} (hret : meth.sig.returnType = some t) (hlk : meth.locks = false) (eT : T.heap = h) (hk : k0 ≤ h.size) (ht : t.isReference = true) {pc : Nat} {Ls : Array Slot} {w : Value} (hw : w.isRef = true) {rest : List Value} (hd : decode c.code pc = .ok (.areturn, 1))
    (hP : P (some w) h locs) (hc : cells ≤ cm) (hs : slots ≤ sm) : own_GoW p e below s P cm sm T (mkF m pc Ls (w :: rest)) :=
  own_outW X hS (fun q => by rw [hret] at q; cases q) hlk eT hk (fun fs hr => retOut X hx hret (by cases t <;> cases w <;> first | rfl | (simp [Value.isRef] at hw; done) | (simp [FieldType.isReference] at ht; done)) (Or.inr (Or.inr (Or.inr (Or.inr ⟨rfl, ht, hw⟩)))) hd hr) hP hc hs
theorem own_ret0W (X : Stand p l e R (s.setVm vm1) m args below meth c T locs cells slots) (hS : s.Since vm1 k0) (hx : p.tables.exec = Jvm.exec) (hret : meth.sig.returnType = none) (hlk : meth.locks = false) (eT : T.heap = h) (hk : k0 ≤ h.size) {pc : Nat} {Ls : Array Slot} (hd : decode c.code pc = .ok (.return_, 1))
    (hP : P none h locs) (hc : cells ≤ cm) (hs : slots ≤ sm) : own_GoW p e below s P cm sm T (mkF m pc Ls []) :=
  own_outW X hS (fun _ => rfl) hlk eT hk (fun fs hr => X.returnOut hx hret hd hr) hP hc hs
theorem own_no {a0 : Array Value} {C S K : String} {nn : Nat} (w : (Cond.superclass C S).before a0 Z = true) (wo : (Cond.noSuperclass S).before a0 Z = true) (wk : (Cond.instantiable K nn).before a0 Z = true) (hS : S ≠ K) (hC : C ≠ K) : ∃ c t, Z.vm.findClass C = some c ∧ Z.vm.findClass K = some t ∧ Z.vm.assignable c t = false := by
  obtain ⟨c, h0⟩ := found_sup w
  obtain ⟨p, k, kp, h1, h2, h3, h4, h5, h6, h7⟩ := Cond.superclass_spec h0 w
  obtain ⟨p', ko, o1, o2, o3, o4, o5⟩ := Cond.noSuperclass_spec wo
  cases h1.symm.trans o1
  cases h3.symm.trans o2
  obtain ⟨t, kt, t1, t2, t3, t4, -⟩ := Cond.instantiable_spec wk
  have t5 : kt.isInterface = false := by simp at t4; exact t4.1
  have n1 := ids_ne h0 t1 hC
  have n2 := ids_ne h1 t1 hS
  refine ⟨c, t, h0, t1, ?_⟩
  have q : ∀ fuel, Z.vm.isSubclassAux fuel c t = false := fun fuel => by
    cases fuel with
    | zero => rfl
    | succ f => cases f with
      | zero => simp [Vm.isSubclassAux, n1, h2, h4]
      | succ f => simp [Vm.isSubclassAux, n1, n2, h2, h3, h4, o3]
  show Z.vm.assignableAux (255 + 1) c t = false
  simp [Vm.assignableAux, n1, h2, t2, h5, t3, t5, Vm.isSubclass, q]
/-- a callee that reads literals: what is held is told of its start alone -/
theorem own_backH {y : MethodName} {bytes : ByteArray} {maxL : Nat} {ret : Option FieldType} {rm : Room} {len W : Nat} {as' a0 : Array Value} {Q : Option Value → Heap → List Loc → Prop} {EL : List (String × Nat)}
    (hM : MetFree l y (head1 [Cond.code y bytes maxL ret] rm) (fun a U => a = as' ∧ Z.Warmed39 U.vm ∧ U.heap = h ∧ CHv Z EL U.vm h) (fun _ _ _ _ _ => True) (fun _ U o U' => ∃ v L, o = .returned v ∧ Q v U'.heap L ∧ ReturnedEndW U o U' L rm.cells rm.slots))
    (hZ : Z.Warmed39 vm1) (wc : (Cond.code y bytes maxL ret).before a0 Z = true) (wz : (Cond.initialized y.cls).before a0 Z = true) (hf : rm.frames + 1 ≤ R.frames) (hl : W + (maxL + 11) + rm.locals ≤ R.locals) (hEL : EW Z a0 EL) (H : CHv Z EL vm1 h) :
    BackS l R p e below (s.setVm vm1) args y len W (fun A a => a = as' ∧ A.U.heap = h ∧ A.cells + rm.cells ≤ R.cells ∧ A.slots + rm.slots ≤ R.slots) (fun A _ v B => ∃ L, Q v B.U.heap L ∧ B.locs = A.locs ++ L ∧ B.cells = A.cells + rm.cells ∧ B.slots = A.slots + rm.slots) := by
  apply BackS.of_freeW (bytes := bytes) (maxL := maxL) (ret := ret) (E := fun _ _ o t L k n => (k = rm.cells ∧ n = rm.slots) ∧ ∃ v, o = .returned v ∧ Q v t.heap L) hM hf hl
  · intro m meth c A a Y hp
    have hU : Z.Warmed39 A.U.vm := wtrans (s := s.setVm vm1) hZ Y.warmed
    refine ⟨?_, mv hU wc, mv hU wz, hp.2.2⟩
    show (Cond.and _ .tt).before a A.U = true
    rw [Cond.before_and, mv hU wc]; rfl
  · intro m meth c A a g mk Y hp
    exact ⟨hp.1, wtrans (s := s.setVm vm1) hZ Y.warmed, hp.2.1, (CHv.at Y hZ hEL H).1⟩
  · intros; trivial
  · rintro a first o t ⟨v, L, q1, q2, q3⟩
    exact ⟨L, _, _, q3, ⟨rfl, rfl⟩, v, q1, q2⟩
  · rintro m meth c A a g mk v t L k n Y hp q1 q2 ⟨⟨rfl, rfl⟩, v', q3, q4⟩
    cases q3
    exact ⟨L, q4, rfl, rfl, rfl⟩
end OwnCold
theorem own_lt0 {x : Int32} (q : 0 ≤ x.toInt) : ¬ x < 0 := by rw [Int32.lt_iff_toInt_lt]; have : (0 : Int32).toInt = 0 := rfl; omega
theorem own_narb (x : Int32) : nar .byte x.toInt8.toInt32 = x.toInt8.toInt32 := by simp [nar]
theorem own_narc (x : Int32) : nar .char x.toUInt32.toUInt16.toUInt32.toInt32 = x.toUInt32.toUInt16.toUInt32.toInt32 := by simp only [nar, UInt32.toUInt32_toInt32, UInt16.toUInt16_toUInt32]
theorem own_modg {q y : Int32} (hq : 0 ≤ q.toInt) (hy : 0 < y.toInt) : 0 ≤ (q % y).toInt ∧ (q % y).toInt < y.toInt := by
  have h2 := (c_iremV q y).1 hq hy
  exact ⟨h2.1, h2.2.1⟩
theorem own_modm (q y : Int32) (hy : 0 < y.toInt) : 0 ≤ ((q &&& (2147483647 : Int32)) % y).toInt ∧ ((q &&& (2147483647 : Int32)) % y).toInt < y.toInt := own_modg (c_and q (2147483647 : Int32) (by decide)).1 hy
theorem own_ch8 (x : Int32) : (¬ (x &&& (255 : Int32)).toUInt32.toUInt16.toUInt32.toInt32 < 0 ∧ ¬ (255 : Int32) < (x &&& (255 : Int32)).toUInt32.toUInt16.toUInt32.toInt32) ∧ nar .char (x &&& (255 : Int32)).toUInt32.toUInt16.toUInt32.toInt32 = (x &&& (255 : Int32)).toUInt32.toUInt16.toUInt32.toInt32 := by
  refine ⟨?_, own_narc _⟩
  rw [i2c_mask, Int32.lt_iff_toInt_lt, Int32.lt_iff_toInt_lt]; have := c_and x (255 : Int32) (by decide); have : (255 : Int32).toInt = 255 := rfl; have : (0 : Int32).toInt = 0 := rfl; omega
theorem own_hp1 {x : Int32} (h : (¬ x < 0 ∧ ¬ (255 : Int32) < x) ∧ nar .char x = x) : ∀ q ∈ ([x] : List Int32), ¬ q < 0 ∧ ¬ (255 : Int32) < q := by
  intro q hq; simp only [List.mem_cons, List.not_mem_nil, or_false] at hq; rcases hq with rfl; exact h.1
theorem own_hp2 {x y : Int32} (h : (¬ x < 0 ∧ ¬ (255 : Int32) < x) ∧ nar .char x = x) (h' : (¬ y < 0 ∧ ¬ (255 : Int32) < y) ∧ nar .char y = y) : ∀ q ∈ ([x, y] : List Int32), ¬ q < 0 ∧ ¬ (255 : Int32) < q := by
  intro q hq; simp only [List.mem_cons, List.not_mem_nil, or_false] at hq; rcases hq with rfl | rfl; exact h.1; exact h'.1
theorem own_hp3 {x y z : Int32} (h : (¬ x < 0 ∧ ¬ (255 : Int32) < x) ∧ nar .char x = x) (h' : (¬ y < 0 ∧ ¬ (255 : Int32) < y) ∧ nar .char y = y) (h2 : (¬ z < 0 ∧ ¬ (255 : Int32) < z) ∧ nar .char z = z) : ∀ q ∈ ([x, y, z] : List Int32), ¬ q < 0 ∧ ¬ (255 : Int32) < q := by
  intro q hq; simp only [List.mem_cons, List.not_mem_nil, or_false] at hq; rcases hq with rfl | rfl | rfl; exact h.1; exact h'.1; exact h2.1
theorem d12_0 : decode jdk_43_method_3_code 0 = .ok (.iload_n 0, 1) := by decide +kernel
theorem d12_1 : decode jdk_43_method_3_code 1 = .ok (.sipush 255, 3) := by decide +kernel
theorem d12_4 : decode jdk_43_method_3_code 4 = .ok (.if_icmp .gt 7, 3) := by decide +kernel
theorem d12_7 : decode jdk_43_method_3_code 7 = .ok (.iconst 1, 1) := by decide +kernel
theorem d12_8 : decode jdk_43_method_3_code 8 = .ok (.goto 4, 3) := by decide +kernel
theorem d12_12 : decode jdk_43_method_3_code 12 = .ok (.ireturn, 1) := by decide +kernel
theorem own_pn0 : plainName "java/lang/StringLatin1" = true := by first | (simp [plainName, overriddenIn]; done) | decide +kernel
def own_canEnc_Q (Z : State) (z : Int32) (h0 : Heap) (n0 : Nat) (v : Option Value) (h : Heap) (L : List Loc) : Prop := v = some (.int 1) ∧ Fr n0 L ∧ h = h0
set_option maxRecDepth 65536 in
set_option maxHeartbeats 40000000 in
theorem own_canEnc (l : Launch) (Z : State) (a0 : Array Value) (hw : ∀ d ∈ tables_1, d.before a0 Z = true) (ws : List Jvm.Cond) (z : Int32) (h0 : Heap) (n0 : Nat) (Z0 : n0 ≤ h0.size) (hz : ¬ (255 : Int32) < z) :
    MetFree l (⟨"java/lang/StringLatin1", "canEncode", "(C)Z"⟩ : MethodName) (head1 (Jvm.Cond.code (⟨"java/lang/StringLatin1", "canEncode", "(C)Z"⟩ : MethodName) jdk_43_method_3_code 1 (some .boolean) :: ws) ({ frames := 0, cells := 0, slots := 0, locals := 0 } : Room)) (fun aa U0 => aa = #[(.int z)] ∧ Z.Warmed39 U0.vm ∧ U0.heap = h0) (fun _ _ _ _ _ => True) (fun _ U0 o0 U1 => ∃ v0 L0, o0 = .returned v0 ∧ own_canEnc_Q Z z h0 n0 v0 U1.heap L0 ∧ FrameEnd U0 o0 U1 L0 ({ frames := 0, cells := 0, slots := 0, locals := 0 } : Room).cells ({ frames := 0, cells := 0, slots := 0, locals := 0 } : Room).slots) := by
  refine MetFree.of_bodySF (plainFor_of_name own_pn0) hisR ?_
  intro p e s m args below meth c s₁ Bd hml0 hP hK
  obtain ⟨rfl, hZ, hh⟩ := hP
  have hx := Bd.exec
  have hby := Bd.bytes
  have hml : c.maxLocals = 1 := hml0
  have hown : s.vm.findClass "java/lang/StringLatin1" = some m.cls := findClass_of_methodNamed Bd.named
  have hnm := (name_of_methodNamed Bd.named Bd.method).1
  have X0 : Stand p l e ({ frames := 0, cells := 0, slots := 0, locals := 0 } : Room) s m #[(.int z)] below meth c s₁ [] 0 0 := Stand.of_body Bd
  have e0 : s₁.heap = h0 := by rw [← hh, Bd.state]; rfl
  have N0 := Fr.nil n0
  show own_Go p e below s (own_canEnc_Q Z z h0 n0) 0 0 s₁ (entryFrame m #[(.int z)] 1)
  rw [show entryFrame m #[(.int z)] 1 = mkF m 0 #[.val (.int z)] [] from by first | (simp [entryFrame, mkF, argsToLocals, Value.category]; done) | rfl]
  refine own_st (T' := s₁) (g' := (mkF m 1 #[.val (.int z)] [(.int z)])) (fun _ k => XS.iloadN X0.here hx rfl (hb hby d12_0) rfl k) ?_
  refine own_st (T' := s₁) (g' := (mkF m 4 #[.val (.int z)] [(.int (255 : Int32)), (.int z)])) (fun _ k => XS.sipush X0.here hx rfl (hb hby d12_1) k) ?_
  refine own_st (T' := s₁) (g' := (mkF m 7 #[.val (.int z)] [])) (fun _ k => XS.icmpNo X0.here hx rfl (hb hby d12_4) rfl (Jvm.Free.XT.ii_gt_f hz) k) ?_
  refine own_st (T' := s₁) (g' := (mkF m 8 #[.val (.int z)] [(.int (1 : Int32))])) (fun _ k => XS.iconst X0.here hx rfl (hb hby d12_7) k) ?_
  refine own_st (T' := s₁) (g' := (mkF m 12 #[.val (.int z)] [(.int (1 : Int32))])) (fun _ k => XS.goto X0.here hx rfl (pc0 := 8) (pc' := 12) rfl (hb hby d12_8) (by decide) (by decide) k) ?_
  exact own_retN X0 hx Bd.returns Bd.notSynchronized e0 (by simp) (hb hby d12_12) ⟨rfl, N0, rfl⟩ (by decide) (by decide)
theorem d13_0 : decode jdk_43_method_46_code 0 = .ok (.iconst 1, 1) := by decide +kernel
theorem d13_1 : decode jdk_43_method_46_code 1 = .ok (.newarray .byte, 2) := by decide +kernel
theorem d13_3 : decode jdk_43_method_46_code 3 = .ok (.dup, 1) := by decide +kernel
theorem d13_4 : decode jdk_43_method_46_code 4 = .ok (.iconst 0, 1) := by decide +kernel
theorem d13_5 : decode jdk_43_method_46_code 5 = .ok (.iload_n 0, 1) := by decide +kernel
theorem d13_6 : decode jdk_43_method_46_code 6 = .ok (.i2b, 1) := by decide +kernel
theorem d13_7 : decode jdk_43_method_46_code 7 = .ok (.bastore, 1) := by decide +kernel
theorem d13_8 : decode jdk_43_method_46_code 8 = .ok (.areturn, 1) := by decide +kernel
def own_toBytes_Q (Z : State) (z : Int32) (h0 : Heap) (n0 : Nat) (v : Option Value) (h : Heap) (L : List Loc) : Prop := ∃ t k, v = some (.ref t) ∧ Fr n0 L ∧ Keep h0 h [] ∧ h0.size ≤ t ∧ own_Av Z h t k .byte 1 (fun _ => .int z.toInt8.toInt32)
set_option maxRecDepth 65536 in
set_option maxHeartbeats 40000000 in
theorem own_toBytes (l : Launch) (Z : State) (a0 : Array Value) (hw : ∀ d ∈ tables_1, d.before a0 Z = true) (ws : List Jvm.Cond) (z : Int32) (h0 : Heap) (n0 : Nat) (Z0 : n0 ≤ h0.size) :
    MetFree l (⟨"java/lang/StringLatin1", "toBytes", "(C)[B"⟩ : MethodName) (head1 (Jvm.Cond.code (⟨"java/lang/StringLatin1", "toBytes", "(C)[B"⟩ : MethodName) jdk_43_method_46_code 1 (some (.array .byte)) :: ws) ({ frames := 0, cells := 1, slots := 1, locals := 0 } : Room)) (fun aa U0 => aa = #[(.int z)] ∧ Z.Warmed39 U0.vm ∧ U0.heap = h0) (fun _ _ _ _ _ => True) (fun _ U0 o0 U1 => ∃ v0 L0, o0 = .returned v0 ∧ own_toBytes_Q Z z h0 n0 v0 U1.heap L0 ∧ FrameEnd U0 o0 U1 L0 ({ frames := 0, cells := 1, slots := 1, locals := 0 } : Room).cells ({ frames := 0, cells := 1, slots := 1, locals := 0 } : Room).slots) := by
  refine MetFree.of_bodySF (plainFor_of_name own_pn0) hisR ?_
  intro p e s m args below meth c s₁ Bd hml0 hP hK
  obtain ⟨rfl, hZ, hh⟩ := hP
  have hx := Bd.exec
  have hby := Bd.bytes
  have hml : c.maxLocals = 1 := hml0
  have hown : s.vm.findClass "java/lang/StringLatin1" = some m.cls := findClass_of_methodNamed Bd.named
  have hnm := (name_of_methodNamed Bd.named Bd.method).1
  have X0 : Stand p l e ({ frames := 0, cells := 1, slots := 1, locals := 0 } : Room) s m #[(.int z)] below meth c s₁ [] 0 0 := Stand.of_body Bd
  have e0 : s₁.heap = h0 := by rw [← hh, Bd.state]; rfl
  have N0 := Fr.nil n0
  show own_Go p e below s (own_toBytes_Q Z z h0 n0) 1 1 s₁ (entryFrame m #[(.int z)] 1)
  rw [show entryFrame m #[(.int z)] 1 = mkF m 0 #[.val (.int z)] [] from by first | (simp [entryFrame, mkF, argsToLocals, Value.category]; done) | rfl]
  have Kp := Keep.refl h0 []
  refine own_st (T' := s₁) (g' := (mkF m 1 #[.val (.int z)] [(.int (1 : Int32))])) (fun _ k => XS.iconst X0.here hx rfl (hb hby d13_0) k) ?_
  obtain ⟨T1, h1, k1, X1, e1, E1, A1, st1⟩ := newP X0 hx hZ (hw _ (List.mem_of_getElem? (i := 19) rfl)) e0 (g := (mkF m 1 #[.val (.int z)] [(.int (1 : Int32))])) rfl (hb hby d13_1) rfl (by decide) (cap := 1) (by decide) (by decide) (by decide) (by decide)
  obtain ⟨t, gt⟩ : ∃ z, z = h0.size := ⟨_, rfl⟩
  rw [← gt] at A1 st1
  have ge_t : n0 ≤ t := own_ge Z0 gt
  have sz_t : h0.size ≤ t := own_ge Kp.1 gt
  have Z0' := Nat.le_trans Z0 E1.1
  have Kp := Kp.ext E1
  have V_t := own_Av.new (n := 1) A1 rfl
  refine own_st (T' := T1) (g' := (mkF m 3 #[.val (.int z)] [(.ref t)])) st1 ?_
  refine own_st (T' := T1) (g' := (mkF m 4 #[.val (.int z)] [(.ref t), (.ref t)])) (fun _ k => XS.dup X1.here hx rfl (hb hby d13_3) rfl rfl k) ?_
  refine own_st (T' := T1) (g' := (mkF m 5 #[.val (.int z)] [(.int (0 : Int32)), (.ref t), (.ref t)])) (fun _ k => XS.iconst X1.here hx rfl (hb hby d13_4) k) ?_
  refine own_st (T' := T1) (g' := (mkF m 6 #[.val (.int z)] [(.int z), (.int (0 : Int32)), (.ref t), (.ref t)])) (fun _ k => XS.iloadN X1.here hx rfl (hb hby d13_5) rfl k) ?_
  refine own_st (T' := T1) (g' := (mkF m 7 #[.val (.int z)] [(.int (z.toInt8.toInt32)), (.int (0 : Int32)), (.ref t), (.ref t)])) (fun _ k => XS.i2b X1.here hx rfl (hb hby d13_6) rfl k) ?_
  obtain ⟨T2, h2, X2, e2, W2, V2, st2⟩ := own_stB X1 hx hZ e1 V_t (i := 0) (by decide) (by decide) (g := (mkF m 7 #[.val (.int z)] [(.int (z.toInt8.toInt32)), (.int (0 : Int32)), (.ref t), (.ref t)])) rfl rfl (hb hby d13_7)
  have Z0'' := Nat.le_trans Z0' (Keep.of_wr W2).1
  have Kp := Kp.wr W2 (Or.inr sz_t)
  have N0' := Fr.snoc X2 N0 ge_t
  have V_t := V2
  refine own_st (T' := T2) (g' := (mkF m 8 #[.val (.int z)] [(.ref t)])) st2 ?_
  exact own_retR X2 hx Bd.returns Bd.notSynchronized e2 rfl rfl (hb hby d13_8) ⟨t, _, rfl, N0', Kp, sz_t, V_t.to (fun j hj => by obtain rfl : j = 0 := (by omega); simp [own_narb])⟩ (by decide) (by decide)
theorem d14_0 : decode jdk_42_method_151_code 0 = .ok (.aload_n 0, 1) := by decide +kernel
theorem d14_1 : decode jdk_42_method_151_code 1 = .ok (.invokespecial 1, 3) := by decide +kernel
theorem d14_4 : decode jdk_42_method_151_code 4 = .ok (.aload_n 0, 1) := by decide +kernel
theorem d14_5 : decode jdk_42_method_151_code 5 = .ok (.aload_n 1, 1) := by decide +kernel
theorem d14_6 : decode jdk_42_method_151_code 6 = .ok (.putfield 9, 3) := by decide +kernel
theorem d14_9 : decode jdk_42_method_151_code 9 = .ok (.aload_n 0, 1) := by decide +kernel
theorem d14_10 : decode jdk_42_method_151_code 10 = .ok (.iload_n 2, 1) := by decide +kernel
theorem d14_11 : decode jdk_42_method_151_code 11 = .ok (.putfield 15, 3) := by decide +kernel
theorem d14_14 : decode jdk_42_method_151_code 14 = .ok (.return_, 1) := by decide +kernel
theorem own_pn1 : plainName "java/lang/String" = true := by first | (simp [plainName, overriddenIn]; done) | decide +kernel
def own_strIni_Q (Z : State) (a : Addr) (t : Addr) (h0 : Heap) (n0 : Nat) (v : Option Value) (h : Heap) (L : List Loc) : Prop := v = none ∧ Fr n0 L ∧ Keep h0 h [a] ∧ Exa Z h a "java/lang/String" ∧ Fld Z h a "java/lang/String" "value" "[B" (.ref t) ∧ Fld Z h a "java/lang/String" "coder" "B" (.int (0 : Int32))
set_option maxRecDepth 65536 in
set_option maxHeartbeats 40000000 in
theorem own_strIni (l : Launch) (Z : State) (a0 : Array Value) (hw : ∀ d ∈ tables_1, d.before a0 Z = true) (ws : List Jvm.Cond) (a : Addr) (t : Addr) (h0 : Heap) (n0 : Nat) (Z0 : n0 ≤ h0.size) (Fv : Fld Z h0 a "java/lang/String" "value" "[B" .null) (Fc : Fld Z h0 a "java/lang/String" "coder" "B" (.int (0 : Int32))) (Ea : Exa Z h0 a "java/lang/String") (ga : n0 ≤ a) :
    MetFree l (⟨"java/lang/String", "<init>", "([BB)V"⟩ : MethodName) (head1 (Jvm.Cond.code (⟨"java/lang/String", "<init>", "([BB)V"⟩ : MethodName) jdk_42_method_151_code 3 none :: ws) ({ frames := 1, cells := 0, slots := 0, locals := 12 } : Room)) (fun aa U0 => aa = #[(.ref a), (.ref t), (.int (0 : Int32))] ∧ Z.Warmed39 U0.vm ∧ U0.heap = h0) (fun _ _ _ _ _ => True) (fun _ U0 o0 U1 => ∃ v0 L0, o0 = .returned v0 ∧ own_strIni_Q Z a t h0 n0 v0 U1.heap L0 ∧ FrameEnd U0 o0 U1 L0 ({ frames := 1, cells := 0, slots := 0, locals := 12 } : Room).cells ({ frames := 1, cells := 0, slots := 0, locals := 12 } : Room).slots) := by
  refine MetFree.of_bodySF (plainFor_of_name own_pn1) hisR ?_
  intro p e s m args below meth c s₁ Bd hml0 hP hK
  obtain ⟨rfl, hZ, hh⟩ := hP
  have hx := Bd.exec
  have hby := Bd.bytes
  have hml : c.maxLocals = 3 := hml0
  have hown : s.vm.findClass "java/lang/String" = some m.cls := findClass_of_methodNamed Bd.named
  have hnm := (name_of_methodNamed Bd.named Bd.method).1
  have X0 : Stand p l e ({ frames := 1, cells := 0, slots := 0, locals := 12 } : Room) s m #[(.ref a), (.ref t), (.int (0 : Int32))] below meth c s₁ [] 0 0 := Stand.of_body Bd
  have e0 : s₁.heap = h0 := by rw [← hh, Bd.state]; rfl
  have N0 := Fr.nil n0
  show own_Go p e below s (own_strIni_Q Z a t h0 n0) 0 0 s₁ (entryFrame m #[(.ref a), (.ref t), (.int (0 : Int32))] 3)
  rw [show entryFrame m #[(.ref a), (.ref t), (.int (0 : Int32))] 3 = mkF m 0 #[.val (.ref a), .val (.ref t), .val (.int (0 : Int32))] [] from by first | (simp [entryFrame, mkF, argsToLocals, Value.category]; done) | rfl]
  have Kp := Keep.refl h0 [a]
  refine own_st (T' := s₁) (g' := (mkF m 1 #[.val (.ref a), .val (.ref t), .val (.int (0 : Int32))] [(.ref a)])) (fun _ k => XS.aloadN X0.here hx rfl (hb hby d14_0) rfl rfl k) ?_
  obtain ⟨T3, X3, e3, st3⟩ := initO X0 hx hZ hown (hw _ (List.mem_of_getElem? (i := 15) rfl)) (hw _ (List.mem_of_getElem? (i := 16) rfl)) (hw _ (List.mem_of_getElem? (i := 17) rfl)) e0 (g := (mkF m 1 #[.val (.ref a), .val (.ref t), .val (.int (0 : Int32))] [(.ref a)])) rfl (by rw [hml]; rfl) rfl (hb hby d14_1) (by decide) (W := 0) (by show 2 * 0 + _ ≤ _; exact Nat.le_of_eq rfl) (by decide)
  refine own_st (T' := T3) (g' := (mkF m 4 #[.val (.ref a), .val (.ref t), .val (.int (0 : Int32))] [])) st3 ?_
  refine own_st (T' := T3) (g' := (mkF m 5 #[.val (.ref a), .val (.ref t), .val (.int (0 : Int32))] [(.ref a)])) (fun _ k => XS.aloadN X3.here hx rfl (hb hby d14_4) rfl rfl k) ?_
  refine own_st (T' := T3) (g' := (mkF m 6 #[.val (.ref a), .val (.ref t), .val (.int (0 : Int32))] [(.ref t), (.ref a)])) (fun _ k => XS.aloadN X3.here hx rfl (hb hby d14_5) rfl rfl k) ?_
  obtain ⟨T4, h4, X4, e4, W4, st4⟩ := putF X3 hx hZ hown (host := "") (Or.inl (hw _ (List.mem_of_getElem? (i := 24) rfl))) Via.refl e3 Fv Ea (Or.inr ⟨(hw _ (List.mem_of_getElem? (i := 20) rfl)), rfl, hnm⟩) (hw _ (List.mem_of_getElem? (i := 5) rfl)) (ty := (.array .byte)) (by decide) rfl rfl (g := (mkF m 6 #[.val (.ref a), .val (.ref t), .val (.int (0 : Int32))] [(.ref t), (.ref a)])) rfl rfl (hb hby d14_6)
  have Fc := Fc.other W4 (Or.inr (slot_ne (Or.inr (hw _ (List.mem_of_getElem? (i := 21) rfl))) (Or.inr (hw _ (List.mem_of_getElem? (i := 20) rfl))) (by decide) (t := .byte) (t' := (.array .byte)) (by decide) (by decide)))
  have Ea := Ea.wr W4
  have Z0' := Nat.le_trans Z0 (Keep.of_wr W4).1
  have Kp := Kp.wr W4 (Or.inl (List.mem_of_getElem? (i := 0) rfl))
  have N0' := Fr.snoc X4 N0 ga
  have Fv := Fv.same W4
  refine own_st (T' := T4) (g' := (mkF m 9 #[.val (.ref a), .val (.ref t), .val (.int (0 : Int32))] [])) st4 ?_
  refine own_st (T' := T4) (g' := (mkF m 10 #[.val (.ref a), .val (.ref t), .val (.int (0 : Int32))] [(.ref a)])) (fun _ k => XS.aloadN X4.here hx rfl (hb hby d14_9) rfl rfl k) ?_
  refine own_st (T' := T4) (g' := (mkF m 11 #[.val (.ref a), .val (.ref t), .val (.int (0 : Int32))] [(.int (0 : Int32)), (.ref a)])) (fun _ k => XS.iloadN X4.here hx rfl (hb hby d14_10) rfl k) ?_
  obtain ⟨T5, h5, X5, e5, W5, st5⟩ := putFN X4 hx hZ hown (hw _ (List.mem_of_getElem? (i := 25) rfl)) Via.refl e4 Fc Ea (Or.inr ⟨(hw _ (List.mem_of_getElem? (i := 21) rfl)), rfl, hnm⟩) (hw _ (List.mem_of_getElem? (i := 5) rfl)) (ty := .byte) (v' := (.int (0 : Int32))) (by decide) rfl rfl (g := (mkF m 11 #[.val (.ref a), .val (.ref t), .val (.int (0 : Int32))] [(.int (0 : Int32)), (.ref a)])) rfl rfl (hb hby d14_11)
  have Fv := Fv.other W5 (Or.inr (slot_ne (Or.inr (hw _ (List.mem_of_getElem? (i := 20) rfl))) (Or.inr (hw _ (List.mem_of_getElem? (i := 21) rfl))) (by decide) (t := (.array .byte)) (t' := .byte) (by decide) (by decide)))
  have Ea := Ea.wr W5
  have Z0'' := Nat.le_trans Z0' (Keep.of_wr W5).1
  have Kp := Kp.wr W5 (Or.inl (List.mem_of_getElem? (i := 0) rfl))
  have N0'' := Fr.snoc X5 N0' ga
  have Fc := Fc.same W5
  refine own_st (T' := T5) (g' := (mkF m 14 #[.val (.ref a), .val (.ref t), .val (.int (0 : Int32))] [])) st5 ?_
  exact own_ret0 X5 hx Bd.returns Bd.notSynchronized e5 (hb hby d14_14) ⟨rfl, N0'', Kp, Ea, Fv, Fc⟩ (by decide) (by decide)
theorem own_pd0 : parseMethodDescriptor "(C)Z" = some ⟨[.char], some .boolean⟩ := by decide +kernel
theorem own_pd1 : parseMethodDescriptor "(C)[B" = some ⟨[.char], some (.array .byte)⟩ := by decide +kernel
theorem own_pd2 : parseMethodDescriptor "([BB)V" = some ⟨[(.array .byte), .byte], none⟩ := by decide +kernel
theorem d11_0 : decode jdk_42_method_139_code 0 = .ok (.getstatic 38, 3) := by decide +kernel
theorem d11_3 : decode jdk_42_method_139_code 3 = .ok (.ifCond .eq 23, 3) := by decide +kernel
theorem d11_6 : decode jdk_42_method_139_code 6 = .ok (.iload_n 0, 1) := by decide +kernel
theorem d11_7 : decode jdk_42_method_139_code 7 = .ok (.invokestatic 1015, 3) := by decide +kernel
theorem d11_10 : decode jdk_42_method_139_code 10 = .ok (.ifCond .eq 16, 3) := by decide +kernel
theorem d11_13 : decode jdk_42_method_139_code 13 = .ok (.new 10, 3) := by decide +kernel
theorem d11_16 : decode jdk_42_method_139_code 16 = .ok (.dup, 1) := by decide +kernel
theorem d11_17 : decode jdk_42_method_139_code 17 = .ok (.iload_n 0, 1) := by decide +kernel
theorem d11_18 : decode jdk_42_method_139_code 18 = .ok (.invokestatic 1018, 3) := by decide +kernel
theorem d11_21 : decode jdk_42_method_139_code 21 = .ok (.iconst 0, 1) := by decide +kernel
theorem d11_22 : decode jdk_42_method_139_code 22 = .ok (.invokespecial 209, 3) := by decide +kernel
theorem d11_25 : decode jdk_42_method_139_code 25 = .ok (.areturn, 1) := by decide +kernel
def own_valueOf_Q (Z : State) (z : Int32) (cs : Int32) (h0 : Heap) (n0 : Nat) (v : Option Value) (h : Heap) (L : List Loc) : Prop := ∃ a t k, v = some (.ref a) ∧ Fr n0 L ∧ Keep h0 h [] ∧ h0.size ≤ a ∧ h0.size ≤ t ∧ Exa Z h a "java/lang/String" ∧ Fld Z h a "java/lang/String" "value" "[B" (.ref t) ∧ Fld Z h a "java/lang/String" "coder" "B" (.int (0 : Int32)) ∧ own_Av Z h t k .byte 1 (fun _ => .int z.toInt8.toInt32)
set_option maxRecDepth 65536 in
set_option maxHeartbeats 40000000 in
theorem own_valueOf (l : Launch) (Z : State) (a0 : Array Value) (hw : ∀ d ∈ tables_1, d.before a0 Z = true) (ws : List Jvm.Cond) (z : Int32) (cs : Int32) (h0 : Heap) (n0 : Nat) (Z0 : n0 ≤ h0.size) (hz : ¬ (255 : Int32) < z) (SC : Sta Z h0 "java/lang/String" "COMPACT_STRINGS" "Z" (.int cs)) (hcs : ¬ cs = (0 : Int32)) :
    MetFree l (⟨"java/lang/String", "valueOf", "(C)Ljava/lang/String;"⟩ : MethodName) (head1 (Jvm.Cond.code (⟨"java/lang/String", "valueOf", "(C)Ljava/lang/String;"⟩ : MethodName) jdk_42_method_139_code 1 (some (.object "java/lang/String")) :: ws) ({ frames := 2, cells := 2, slots := 5, locals := 27 } : Room)) (fun aa U0 => aa = #[(.int z)] ∧ Z.Warmed39 U0.vm ∧ U0.heap = h0) (fun _ _ _ _ _ => True) (fun _ U0 o0 U1 => ∃ v0 L0, o0 = .returned v0 ∧ own_valueOf_Q Z z cs h0 n0 v0 U1.heap L0 ∧ FrameEnd U0 o0 U1 L0 ({ frames := 2, cells := 2, slots := 5, locals := 27 } : Room).cells ({ frames := 2, cells := 2, slots := 5, locals := 27 } : Room).slots) := by
  refine MetFree.of_bodySF (plainFor_of_name own_pn1) hisR ?_
  intro p e s m args below meth c s₁ Bd hml0 hP hK
  obtain ⟨rfl, hZ, hh⟩ := hP
  have hx := Bd.exec
  have hby := Bd.bytes
  have hml : c.maxLocals = 1 := hml0
  have hown : s.vm.findClass "java/lang/String" = some m.cls := findClass_of_methodNamed Bd.named
  have hnm := (name_of_methodNamed Bd.named Bd.method).1
  have X0 : Stand p l e ({ frames := 2, cells := 2, slots := 5, locals := 27 } : Room) s m #[(.int z)] below meth c s₁ [] 0 0 := Stand.of_body Bd
  have e0 : s₁.heap = h0 := by rw [← hh, Bd.state]; rfl
  have N0 := Fr.nil n0
  show own_Go p e below s (own_valueOf_Q Z z cs h0 n0) 2 5 s₁ (entryFrame m #[(.int z)] 1)
  rw [show entryFrame m #[(.int z)] 1 = mkF m 0 #[.val (.int z)] [] from by first | (simp [entryFrame, mkF, argsToLocals, Value.category]; done) | rfl]
  have Kp := Keep.refl h0 []
  obtain ⟨T6, X6, e6, st6⟩ := getS2 X0 hx hZ hown (host := "") (Or.inl (hw _ (List.mem_of_getElem? (i := 47) rfl))) Via.refl e0 SC (g := (mkF m 0 #[.val (.int z)] [])) rfl (hb hby d11_0)
  refine own_st (T' := T6) (g' := (mkF m 3 #[.val (.int z)] [(.int cs)])) st6 ?_
  refine own_st (T' := T6) (g' := (mkF m 6 #[.val (.int z)] [])) (fun _ k => XS.ifNo X6.here hx rfl (hb hby d11_3) rfl (Jvm.Free.XT.i0_eq_f hcs) k) ?_
  refine own_st (T' := T6) (g' := (mkF m 7 #[.val (.int z)] [(.int z)])) (fun _ k => XS.iloadN X6.here hx rfl (hb hby d11_6) rfl k) ?_
  obtain ⟨vq7, _, ⟨T7, L7, k7, n7⟩, -, X7, ⟨Lc7, hQ7, l7, y7, z7⟩, st7⟩ := Jvm.LawKit.callS X6 hx (y := (⟨"java/lang/StringLatin1", "canEncode", "(C)Z"⟩ : MethodName)) hown (mvT hZ (hw _ (List.mem_of_getElem? (i := 61) rfl))) (mvT hZ (hw _ (List.mem_of_getElem? (i := 62) rfl))) (mvT hZ (hw _ (List.mem_of_getElem? (i := 63) rfl))) (mvT hZ (hw _ (List.mem_of_getElem? (i := 64) rfl))) (by decide) (backOf (W := 0) (own_canEnc l Z a0 hw [] z h0 n0 Z0 hz) hZ (hw _ (List.mem_of_getElem? (i := 64) rfl)) (hw _ (List.mem_of_getElem? (i := 63) rfl)) (by decide) (by decide)) (g := (mkF m 7 #[.val (.int z)] [(.int z)])) rfl (by rw [hml]; rfl) (argsL := [(.int z)]) (rest := []) (lenOf own_pd0 rfl) rfl (by show 2 * 0 + _ ≤ _; exact Nat.le_of_eq rfl) (hb hby d11_7) (fun _ _ => ⟨rfl, e6, (by decide : 0 + 0 ≤ _), (by decide : 0 + 0 ≤ _)⟩)
  dsimp only [Pt.U, Pt.locs, Pt.cells, Pt.slots] at X7 l7 y7 z7 st7 hQ7
  subst l7 y7 z7
  obtain ⟨rfl, N7q, e7⟩ := hQ7
  have N0' := Fr.app N0 N7q
  refine own_st (T' := T7) (g' := (mkF m 10 #[.val (.int z)] [(.int (1 : Int32))])) st7 ?_
  refine own_st (T' := T7) (g' := (mkF m 13 #[.val (.int z)] [])) (fun _ k => XS.ifNo X7.here hx rfl (hb hby d11_10) rfl (Jvm.Free.XT.i0_eq_f (by decide)) k) ?_
  obtain ⟨T8, h8, X8, e8, E8, A8, D8, -, st8⟩ := newO X7 hx hZ hown (hw _ (List.mem_of_getElem? (i := 65) rfl)) (hw _ (List.mem_of_getElem? (i := 5) rfl)) (hw _ (List.mem_of_getElem? (i := 6) rfl)) e7 (g := (mkF m 13 #[.val (.int z)] [])) rfl (hb hby d11_13) (by decide) (by decide)
  obtain ⟨a, ga⟩ : ∃ z, z = h0.size := ⟨_, rfl⟩
  rw [← ga] at A8 D8 st8
  have ge_a : n0 ≤ a := own_ge Z0 ga
  have sz_a : h0.size ≤ a := own_ge Kp.1 ga
  have Z0' := Nat.le_trans Z0 E8.1
  have Kp := Kp.ext E8
  have E_a := A8
  have F_value_a : Fld Z h8 a "java/lang/String" "value" "[B" .null := D8 (Or.inr (hw _ (List.mem_of_getElem? (i := 20) rfl))) (ty := (.array .byte)) (by decide)
  have F_coder_a : Fld Z h8 a "java/lang/String" "coder" "B" (.int (0 : Int32)) := D8 (Or.inr (hw _ (List.mem_of_getElem? (i := 21) rfl))) (ty := .byte) (by decide)
  refine own_st (T' := T8) (g' := (mkF m 16 #[.val (.int z)] [(.ref a)])) st8 ?_
  refine own_st (T' := T8) (g' := (mkF m 17 #[.val (.int z)] [(.ref a), (.ref a)])) (fun _ k => XS.dup X8.here hx rfl (hb hby d11_16) rfl rfl k) ?_
  refine own_st (T' := T8) (g' := (mkF m 18 #[.val (.int z)] [(.int z), (.ref a), (.ref a)])) (fun _ k => XS.iloadN X8.here hx rfl (hb hby d11_17) rfl k) ?_
  have lt_a := E_a.lt
  obtain ⟨vq9, _, ⟨T9, L9, k9, n9⟩, -, X9, ⟨Lc9, hQ9, l9, y9, z9⟩, st9⟩ := Jvm.LawKit.callS X8 hx (y := (⟨"java/lang/StringLatin1", "toBytes", "(C)[B"⟩ : MethodName)) hown (mvT hZ (hw _ (List.mem_of_getElem? (i := 66) rfl))) (mvT hZ (hw _ (List.mem_of_getElem? (i := 67) rfl))) (mvT hZ (hw _ (List.mem_of_getElem? (i := 63) rfl))) (mvT hZ (hw _ (List.mem_of_getElem? (i := 68) rfl))) (by decide) (backOf (W := 2) (own_toBytes l Z a0 hw [] z h8 n0 Z0' ) hZ (hw _ (List.mem_of_getElem? (i := 68) rfl)) (hw _ (List.mem_of_getElem? (i := 63) rfl)) (by decide) (by decide)) (g := (mkF m 18 #[.val (.int z)] [(.int z), (.ref a), (.ref a)])) rfl (by rw [hml]; rfl) (argsL := [(.int z)]) (rest := [(.ref a), (.ref a)]) (lenOf own_pd1 rfl) rfl (by show 2 * 0 + _ ≤ _; exact Nat.le_of_eq rfl) (hb hby d11_18) (fun _ _ => ⟨rfl, e8, (by decide : ((0 + 0) + 1) + 1 ≤ _), (by decide : ((0 + 0) + 4) + 1 ≤ _)⟩)
  dsimp only [Pt.U, Pt.locs, Pt.cells, Pt.slots] at X9 l9 y9 z9 st9 hQ9
  subst l9 y9 z9
  obtain ⟨t, kt, rfl, N9q, K9, gt, Vt⟩ := hQ9
  have N0'' := Fr.app N0' N9q
  have ne_a_t : a ≠ t := own_ne2 lt_a gt
  have ge_t : n0 ≤ t := Nat.le_trans Z0' gt
  have sz_t : h0.size ≤ t := Nat.le_trans Kp.1 gt
  have E_a := E_a.keep K9
  have F_value_a := F_value_a.keep K9 nin0
  have F_coder_a := F_coder_a.keep K9 nin0
  have Z0'' := Nat.le_trans Z0' K9.1
  have Kp := Kp.trans K9 all0
  refine own_st (T' := T9) (g' := (mkF m 21 #[.val (.int z)] [(.ref t), (.ref a), (.ref a)])) st9 ?_
  refine own_st (T' := T9) (g' := (mkF m 22 #[.val (.int z)] [(.int (0 : Int32)), (.ref t), (.ref a), (.ref a)])) (fun _ k => XS.iconst X9.here hx rfl (hb hby d11_21) k) ?_
  obtain ⟨vq10, _, ⟨T10, L10, k10, n10⟩, -, X10, ⟨Lc10, hQ10, l10, y10, z10⟩, st10⟩ := X9.specialBack hx (y := (⟨"java/lang/String", "<init>", "([BB)V"⟩ : MethodName)) rfl hown (mvT hZ (hw _ (List.mem_of_getElem? (i := 69) rfl))) (mvT hZ (hw _ (List.mem_of_getElem? (i := 70) rfl))) (mvT hZ (hw _ (List.mem_of_getElem? (i := 71) rfl))) (by decide) (backOf (W := 1) (own_strIni l Z a0 hw [] a t T9.heap n0 Z0'' F_value_a F_coder_a E_a ge_a) hZ (hw _ (List.mem_of_getElem? (i := 71) rfl)) (hw _ (List.mem_of_getElem? (i := 6) rfl)) (by decide) (by decide)) (g := (mkF m 22 #[.val (.int z)] [(.int (0 : Int32)), (.ref t), (.ref a), (.ref a)])) rfl (by rw [hml]; rfl) (Steps.refl _) (a := a) (argsL := [(.ref t), (.int (0 : Int32))]) (rest := [(.ref a)]) (lenOf own_pd2 rfl) rfl (by show 2 * 0 + _ ≤ _; exact Nat.le_of_eq rfl) (hb hby d11_22) (fun _ _ => ⟨rfl, rfl, (by decide : (((0 + 0) + 1) + 1) + 0 ≤ _), (by decide : (((0 + 0) + 4) + 1) + 0 ≤ _)⟩)
  dsimp only [Pt.U, Pt.locs, Pt.cells, Pt.slots] at X10 l10 y10 z10 st10 hQ10
  subst l10 y10 z10
  obtain ⟨rfl, N10q, K10, -, Fv, Fc⟩ := hQ10
  have N0''' := Fr.app N0'' N10q
  have E_a := E_a.keep K10
  have Vt := Vt.keep K10 (ninS (Ne.symm ne_a_t) nin0)
  have Z0''' := Nat.le_trans Z0'' K10.1
  have Kp := Kp.trans K10 (allS (P := fun x => x ∈ [] ∨ h0.size ≤ x) (Or.inr sz_a) all0)
  refine own_tr (T' := T10) (g' := (mkF m 25 #[.val (.int z)] [(.ref a)])) st10 ?_
  exact own_retR X10 hx Bd.returns Bd.notSynchronized rfl rfl rfl (hb hby d11_25) ⟨a, t, kt, rfl, N0''', Kp, sz_a, sz_t, E_a, Fv, Fc, Vt⟩ (by decide) (by decide)
theorem d3_0 : decode jdk_42_method_149_code 0 = .ok (.aload_n 0, 1) := by decide +kernel
theorem d3_1 : decode jdk_42_method_149_code 1 = .ok (.invokespecial 1, 3) := by decide +kernel
theorem d3_4 : decode jdk_42_method_149_code 4 = .ok (.iload_n 3, 1) := by decide +kernel
theorem d3_5 : decode jdk_42_method_149_code 5 = .ok (.ifCond .ne 22, 3) := by decide +kernel
theorem d3_8 : decode jdk_42_method_149_code 8 = .ok (.aload_n 0, 1) := by decide +kernel
theorem d3_9 : decode jdk_42_method_149_code 9 = .ok (.ldc 7, 2) := by decide +kernel
theorem d3_11 : decode jdk_42_method_149_code 11 = .ok (.getfield 9, 3) := by decide +kernel
theorem d3_14 : decode jdk_42_method_149_code 14 = .ok (.putfield 9, 3) := by decide +kernel
theorem d3_17 : decode jdk_42_method_149_code 17 = .ok (.aload_n 0, 1) := by decide +kernel
theorem d3_18 : decode jdk_42_method_149_code 18 = .ok (.ldc 7, 2) := by decide +kernel
theorem d3_20 : decode jdk_42_method_149_code 20 = .ok (.getfield 15, 3) := by decide +kernel
theorem d3_23 : decode jdk_42_method_149_code 23 = .ok (.putfield 15, 3) := by decide +kernel
theorem d3_26 : decode jdk_42_method_149_code 26 = .ok (.return_, 1) := by decide +kernel
def own_i4_Q (Z : State) (a : Addr) (w : Addr) (h0 : Heap) (n0 : Nat) (v : Option Value) (h : Heap) (L : List Loc) : Prop := v = none ∧ Fr n0 L ∧ Keep h0 h [a]
set_option maxRecDepth 65536 in
set_option maxHeartbeats 40000000 in
theorem own_i4 (l : Launch) (Z : State) (a0 : Array Value) (hw : ∀ d ∈ tables_1, d.before a0 Z = true) (ws : List Jvm.Cond) (a : Addr) (w : Addr) (h0 : Heap) (n0 : Nat) (Z0 : n0 ≤ h0.size) (Fv : Fld Z h0 a "java/lang/String" "value" "[B" .null) (Fc : Fld Z h0 a "java/lang/String" "coder" "B" (.int (0 : Int32))) (Ea : Exa Z h0 a "java/lang/String") (ga : n0 ≤ a) :
    MetFree l (⟨"java/lang/String", "<init>", "([CIILjava/lang/Void;)V"⟩ : MethodName) (head1 (Jvm.Cond.code (⟨"java/lang/String", "<init>", "([CIILjava/lang/Void;)V"⟩ : MethodName) jdk_42_method_149_code 6 none :: ws) ({ frames := 1, cells := 2, slots := 4, locals := 12 } : Room)) (fun aa U0 => aa = #[(.ref a), (.ref w), (.int (0 : Int32)), (.int (0 : Int32)), .null] ∧ Z.Warmed39 U0.vm ∧ U0.heap = h0 ∧ CHv Z consts_1 U0.vm h0) (fun _ _ _ _ _ => True) (fun _ U0 o0 U1 => ∃ v0 L0, o0 = .returned v0 ∧ own_i4_Q Z a w h0 n0 v0 U1.heap L0 ∧ ReturnedEndW U0 o0 U1 L0 ({ frames := 1, cells := 2, slots := 4, locals := 12 } : Room).cells ({ frames := 1, cells := 2, slots := 4, locals := 12 } : Room).slots) := by
  refine MetFree.of_bodySF (plainFor_of_name own_pn1) hisR ?_
  intro p e s m args below meth c s₁ Bd hml0 hP hK
  obtain ⟨rfl, hZ, hh, hH⟩ := hP
  have hx := Bd.exec
  have hby := Bd.bytes
  have hml : c.maxLocals = 6 := hml0
  have hown : s.vm.findClass "java/lang/String" = some m.cls := findClass_of_methodNamed Bd.named
  have hnm := (name_of_methodNamed Bd.named Bd.method).1
  have X0 : Stand p l e ({ frames := 1, cells := 2, slots := 4, locals := 12 } : Room) s m #[(.ref a), (.ref w), (.int (0 : Int32)), (.int (0 : Int32)), .null] below meth c s₁ [] 0 0 := Stand.of_body Bd
  have e0 : s₁.heap = h0 := by rw [← hh, Bd.state]; rfl
  have N0 := Fr.nil n0
  have X0 : Stand p l e ({ frames := 1, cells := 2, slots := 4, locals := 12 } : Room) (s.setVm s.vm) m #[(.ref a), (.ref w), (.int (0 : Int32)), (.int (0 : Int32)), .null] below meth c s₁ [] 0 0 := X0
  have hS := (State.WarmedH.refl s).since 0
  have hk0 : 0 ≤ h0.size := Nat.zero_le _
  have wS : ∀ d ∈ Bundle.stringAtoms, d.before a0 Z = true := fun d hd => hw d ((by decide +kernel : ∀ d ∈ Bundle.stringAtoms, d ∈ tables_1) d hd)
  have hEL : EW Z a0 consts_1 := EW.cons (hw _ (List.mem_of_getElem? (i := 18) rfl)) (by decide) (EW.nil)
  show own_GoW p e below s (own_i4_Q Z a w h0 n0) 2 4 s₁ (entryFrame m #[(.ref a), (.ref w), (.int (0 : Int32)), (.int (0 : Int32)), .null] 6)
  rw [show entryFrame m #[(.ref a), (.ref w), (.int (0 : Int32)), (.int (0 : Int32)), .null] 6 = mkF m 0 #[.val (.ref a), .val (.ref w), .val (.int (0 : Int32)), .val (.int (0 : Int32)), .val .null, .unset] [] from by first | (simp [entryFrame, mkF, argsToLocals, Value.category]; done) | rfl]
  have Kp := Keep.refl h0 [a]
  refine own_stW (T' := s₁) (g' := (mkF m 1 #[.val (.ref a), .val (.ref w), .val (.int (0 : Int32)), .val (.int (0 : Int32)), .val .null, .unset] [(.ref a)])) (fun _ k => XS.aloadN X0.here hx rfl (hb hby d3_0) rfl rfl k) ?_
  obtain ⟨T11, X11, e11, st11⟩ := initO X0 hx hZ hown (hw _ (List.mem_of_getElem? (i := 15) rfl)) (hw _ (List.mem_of_getElem? (i := 16) rfl)) (hw _ (List.mem_of_getElem? (i := 17) rfl)) e0 (g := (mkF m 1 #[.val (.ref a), .val (.ref w), .val (.int (0 : Int32)), .val (.int (0 : Int32)), .val .null, .unset] [(.ref a)])) rfl (by rw [hml]; rfl) rfl (hb hby d3_1) (by decide) (W := 0) (by show 2 * 0 + _ ≤ _; exact Nat.le_of_eq rfl) (by decide)
  refine own_stW (T' := T11) (g' := (mkF m 4 #[.val (.ref a), .val (.ref w), .val (.int (0 : Int32)), .val (.int (0 : Int32)), .val .null, .unset] [])) st11 ?_
  refine own_stW (T' := T11) (g' := (mkF m 5 #[.val (.ref a), .val (.ref w), .val (.int (0 : Int32)), .val (.int (0 : Int32)), .val .null, .unset] [(.int (0 : Int32))])) (fun _ k => XS.iloadN X11.here hx rfl (hb hby d3_4) rfl k) ?_
  refine own_stW (T' := T11) (g' := (mkF m 8 #[.val (.ref a), .val (.ref w), .val (.int (0 : Int32)), .val (.int (0 : Int32)), .val .null, .unset] [])) (fun _ k => XS.ifNo X11.here hx rfl (hb hby d3_5) rfl (Jvm.Free.XT.i0_ne_f rfl) k) ?_
  refine own_stW (T' := T11) (g' := (mkF m 9 #[.val (.ref a), .val (.ref w), .val (.int (0 : Int32)), .val (.int (0 : Int32)), .val .null, .unset] [(.ref a)])) (fun _ k => XS.aloadN X11.here hx rfl (hb hby d3_8) rfl rfl k) ?_
  obtain ⟨li, T12, h12, k12, v_li, kb_li, X12, e12, E12, hS, hk12, hZ, hown, E_li, Fc_li, Fv_li, Kb_li, -, -, hC12, hL12, -, st12⟩ := ldcCH (s := s) X11 hx hZ hown (hw _ (List.mem_of_getElem? (i := 18) rfl)) wS e11 hS hk0 hEL (List.mem_of_getElem? (i := 0) rfl) hH  (z := (0 : Int32)) ⟨by decide, rfl⟩ (by decide) (by rfl) (g := (mkF m 9 #[.val (.ref a), .val (.ref w), .val (.int (0 : Int32)), .val (.int (0 : Int32)), .val .null, .unset] [(.ref a)])) rfl (hb hby d3_9) (n := 0) (by decide) (by decide) (by decide) (by decide)
  have Fv := Fv.ext E12
  have Fc := Fc.ext E12
  have Ea := Ea.ext E12
  have Z0' := Nat.le_trans Z0 E12.1
  have Kp := Kp.ext E12
  have hH := hC12.1
  refine own_stW (T' := T12) (g' := (mkF m 11 #[.val (.ref a), .val (.ref w), .val (.int (0 : Int32)), .val (.int (0 : Int32)), .val .null, .unset] [(.ref li), (.ref a)])) st12 ?_
  obtain ⟨T13, X13, e13, st13⟩ := getF X12 hx hZ hown (host := "") (Or.inl (hw _ (List.mem_of_getElem? (i := 24) rfl))) Via.refl e12 Fv_li (g := (mkF m 11 #[.val (.ref a), .val (.ref w), .val (.int (0 : Int32)), .val (.int (0 : Int32)), .val .null, .unset] [(.ref li), (.ref a)])) rfl rfl (hb hby d3_11)
  refine own_stW (T' := T13) (g' := (mkF m 14 #[.val (.ref a), .val (.ref w), .val (.int (0 : Int32)), .val (.int (0 : Int32)), .val .null, .unset] [(.ref v_li), (.ref a)])) st13 ?_
  obtain ⟨T14, h14, X14, e14, W14, st14⟩ := putF X13 hx hZ hown (host := "") (Or.inl (hw _ (List.mem_of_getElem? (i := 24) rfl))) Via.refl e13 Fv Ea (Or.inr ⟨(hw _ (List.mem_of_getElem? (i := 20) rfl)), rfl, hnm⟩) (hw _ (List.mem_of_getElem? (i := 5) rfl)) (ty := (.array .byte)) (by decide) rfl rfl (g := (mkF m 14 #[.val (.ref a), .val (.ref w), .val (.int (0 : Int32)), .val (.int (0 : Int32)), .val .null, .unset] [(.ref v_li), (.ref a)])) rfl rfl (hb hby d3_14)
  have Fc := Fc.other W14 (Or.inr (slot_ne (Or.inr (hw _ (List.mem_of_getElem? (i := 21) rfl))) (Or.inr (hw _ (List.mem_of_getElem? (i := 20) rfl))) (by decide) (t := .byte) (t' := (.array .byte)) (by decide) (by decide)))
  have Ea := Ea.wr W14
  have Z0'' := Nat.le_trans Z0' (Keep.of_wr W14).1
  have Kp := Kp.wr W14 (Or.inl (List.mem_of_getElem? (i := 0) rfl))
  have hk12 := Nat.le_trans hk12 (Keep.of_wr W14).1
  have N0' := Fr.snoc X14 N0 ga
  have Fv := Fv.same W14
  refine own_stW (T' := T14) (g' := (mkF m 17 #[.val (.ref a), .val (.ref w), .val (.int (0 : Int32)), .val (.int (0 : Int32)), .val .null, .unset] [])) st14 ?_
  have Fc_li := Fc_li.other W14 (Or.inr (slot_ne (Or.inr (hw _ (List.mem_of_getElem? (i := 21) rfl))) (Or.inr (hw _ (List.mem_of_getElem? (i := 20) rfl))) (by decide) (t := .byte) (t' := (.array .byte)) (by decide) (by decide)))
  refine own_stW (T' := T14) (g' := (mkF m 18 #[.val (.ref a), .val (.ref w), .val (.int (0 : Int32)), .val (.int (0 : Int32)), .val .null, .unset] [(.ref a)])) (fun _ k => XS.aloadN X14.here hx rfl (hb hby d3_17) rfl rfl k) ?_
  refine own_stW (T' := T14) (g' := (mkF m 20 #[.val (.ref a), .val (.ref w), .val (.int (0 : Int32)), .val (.int (0 : Int32)), .val .null, .unset] [(.ref li), (.ref a)])) (ldcAgain (s := s) X14 hx hZ hown (hw _ (List.mem_of_getElem? (i := 18) rfl)) hL12 (g := (mkF m 18 #[.val (.ref a), .val (.ref w), .val (.int (0 : Int32)), .val (.int (0 : Int32)), .val .null, .unset] [(.ref a)])) rfl (hb hby d3_18)) ?_
  obtain ⟨T16, X16, e16, st16⟩ := getF X14 hx hZ hown (host := "") (Or.inl (hw _ (List.mem_of_getElem? (i := 25) rfl))) Via.refl e14 Fc_li (g := (mkF m 20 #[.val (.ref a), .val (.ref w), .val (.int (0 : Int32)), .val (.int (0 : Int32)), .val .null, .unset] [(.ref li), (.ref a)])) rfl rfl (hb hby d3_20)
  refine own_stW (T' := T16) (g' := (mkF m 23 #[.val (.ref a), .val (.ref w), .val (.int (0 : Int32)), .val (.int (0 : Int32)), .val .null, .unset] [(.int (0 : Int32)), (.ref a)])) st16 ?_
  obtain ⟨T17, h17, X17, e17, W17, st17⟩ := putFN X16 hx hZ hown (hw _ (List.mem_of_getElem? (i := 25) rfl)) Via.refl e16 Fc Ea (Or.inr ⟨(hw _ (List.mem_of_getElem? (i := 21) rfl)), rfl, hnm⟩) (hw _ (List.mem_of_getElem? (i := 5) rfl)) (ty := .byte) (v' := (.int (0 : Int32))) (by decide) rfl rfl (g := (mkF m 23 #[.val (.ref a), .val (.ref w), .val (.int (0 : Int32)), .val (.int (0 : Int32)), .val .null, .unset] [(.int (0 : Int32)), (.ref a)])) rfl rfl (hb hby d3_23)
  have Fv := Fv.other W17 (Or.inr (slot_ne (Or.inr (hw _ (List.mem_of_getElem? (i := 20) rfl))) (Or.inr (hw _ (List.mem_of_getElem? (i := 21) rfl))) (by decide) (t := (.array .byte)) (t' := .byte) (by decide) (by decide)))
  have Ea := Ea.wr W17
  have Z0''' := Nat.le_trans Z0'' (Keep.of_wr W17).1
  have Kp := Kp.wr W17 (Or.inl (List.mem_of_getElem? (i := 0) rfl))
  have hk12 := Nat.le_trans hk12 (Keep.of_wr W17).1
  have N0'' := Fr.snoc X17 N0' ga
  have Fc := Fc.same W17
  refine own_stW (T' := T17) (g' := (mkF m 26 #[.val (.ref a), .val (.ref w), .val (.int (0 : Int32)), .val (.int (0 : Int32)), .val .null, .unset] [])) st17 ?_
  exact own_ret0W X17 hS hx Bd.returns Bd.notSynchronized e17 hk12 (hb hby d3_26) ⟨rfl, N0'', Kp⟩ (by decide) (by decide)
theorem own_pd3 : parseMethodDescriptor "([CIILjava/lang/Void;)V" = some ⟨[(.array .char), .int, .int, (.object "java/lang/Void")], none⟩ := by decide +kernel
theorem d2_0 : decode jdk_42_method_3_code 0 = .ok (.aload_n 0, 1) := by decide +kernel
theorem d2_1 : decode jdk_42_method_3_code 1 = .ok (.aload_n 1, 1) := by decide +kernel
theorem d2_2 : decode jdk_42_method_3_code 2 = .ok (.iconst 0, 1) := by decide +kernel
theorem d2_3 : decode jdk_42_method_3_code 3 = .ok (.aload_n 1, 1) := by decide +kernel
theorem d2_4 : decode jdk_42_method_3_code 4 = .ok (.arraylength, 1) := by decide +kernel
theorem d2_5 : decode jdk_42_method_3_code 5 = .ok (.aconst_null, 1) := by decide +kernel
theorem d2_6 : decode jdk_42_method_3_code 6 = .ok (.invokespecial 27, 3) := by decide +kernel
theorem d2_9 : decode jdk_42_method_3_code 9 = .ok (.return_, 1) := by decide +kernel
def own_i1_Q (Z : State) (a : Addr) (w : Addr) (kw : ClassId) (fw : Nat → Value) (h0 : Heap) (n0 : Nat) (v : Option Value) (h : Heap) (L : List Loc) : Prop := v = none ∧ Fr n0 L ∧ Keep h0 h [a]
set_option maxRecDepth 65536 in
set_option maxHeartbeats 40000000 in
theorem own_i1 (l : Launch) (Z : State) (a0 : Array Value) (hw : ∀ d ∈ tables_1, d.before a0 Z = true) (ws : List Jvm.Cond) (a : Addr) (w : Addr) (kw : ClassId) (fw : Nat → Value) (h0 : Heap) (n0 : Nat) (Z0 : n0 ≤ h0.size) (Fv : Fld Z h0 a "java/lang/String" "value" "[B" .null) (Fc : Fld Z h0 a "java/lang/String" "coder" "B" (.int (0 : Int32))) (Ea : Exa Z h0 a "java/lang/String") (ga : n0 ≤ a) (Vw : own_Av Z h0 w kw .char 0 fw) :
    MetFree l (⟨"java/lang/String", "<init>", "([C)V"⟩ : MethodName) (head1 (Jvm.Cond.code (⟨"java/lang/String", "<init>", "([C)V"⟩ : MethodName) jdk_42_method_3_code 2 none :: ws) ({ frames := 2, cells := 2, slots := 4, locals := 29 } : Room)) (fun aa U0 => aa = #[(.ref a), (.ref w)] ∧ Z.Warmed39 U0.vm ∧ U0.heap = h0 ∧ CHv Z consts_1 U0.vm h0) (fun _ _ _ _ _ => True) (fun _ U0 o0 U1 => ∃ v0 L0, o0 = .returned v0 ∧ own_i1_Q Z a w kw fw h0 n0 v0 U1.heap L0 ∧ ReturnedEndW U0 o0 U1 L0 ({ frames := 2, cells := 2, slots := 4, locals := 29 } : Room).cells ({ frames := 2, cells := 2, slots := 4, locals := 29 } : Room).slots) := by
  refine MetFree.of_bodySF (plainFor_of_name own_pn1) hisR ?_
  intro p e s m args below meth c s₁ Bd hml0 hP hK
  obtain ⟨rfl, hZ, hh, hH⟩ := hP
  have hx := Bd.exec
  have hby := Bd.bytes
  have hml : c.maxLocals = 2 := hml0
  have hown : s.vm.findClass "java/lang/String" = some m.cls := findClass_of_methodNamed Bd.named
  have hnm := (name_of_methodNamed Bd.named Bd.method).1
  have X0 : Stand p l e ({ frames := 2, cells := 2, slots := 4, locals := 29 } : Room) s m #[(.ref a), (.ref w)] below meth c s₁ [] 0 0 := Stand.of_body Bd
  have e0 : s₁.heap = h0 := by rw [← hh, Bd.state]; rfl
  have N0 := Fr.nil n0
  have X0 : Stand p l e ({ frames := 2, cells := 2, slots := 4, locals := 29 } : Room) (s.setVm s.vm) m #[(.ref a), (.ref w)] below meth c s₁ [] 0 0 := X0
  have hS := (State.WarmedH.refl s).since 0
  have hk0 : 0 ≤ h0.size := Nat.zero_le _
  have wS : ∀ d ∈ Bundle.stringAtoms, d.before a0 Z = true := fun d hd => hw d ((by decide +kernel : ∀ d ∈ Bundle.stringAtoms, d ∈ tables_1) d hd)
  have hEL : EW Z a0 consts_1 := EW.cons (hw _ (List.mem_of_getElem? (i := 18) rfl)) (by decide) (EW.nil)
  show own_GoW p e below s (own_i1_Q Z a w kw fw h0 n0) 2 4 s₁ (entryFrame m #[(.ref a), (.ref w)] 2)
  rw [show entryFrame m #[(.ref a), (.ref w)] 2 = mkF m 0 #[.val (.ref a), .val (.ref w)] [] from by first | (simp [entryFrame, mkF, argsToLocals, Value.category]; done) | rfl]
  have Kp := Keep.refl h0 [a]
  refine own_stW (T' := s₁) (g' := (mkF m 1 #[.val (.ref a), .val (.ref w)] [(.ref a)])) (fun _ k => XS.aloadN X0.here hx rfl (hb hby d2_0) rfl rfl k) ?_
  refine own_stW (T' := s₁) (g' := (mkF m 2 #[.val (.ref a), .val (.ref w)] [(.ref w), (.ref a)])) (fun _ k => XS.aloadN X0.here hx rfl (hb hby d2_1) rfl rfl k) ?_
  refine own_stW (T' := s₁) (g' := (mkF m 3 #[.val (.ref a), .val (.ref w)] [(.int (0 : Int32)), (.ref w), (.ref a)])) (fun _ k => XS.iconst X0.here hx rfl (hb hby d2_2) k) ?_
  refine own_stW (T' := s₁) (g' := (mkF m 4 #[.val (.ref a), .val (.ref w)] [(.ref w), (.int (0 : Int32)), (.ref w), (.ref a)])) (fun _ k => XS.aloadN X0.here hx rfl (hb hby d2_3) rfl rfl k) ?_
  refine own_stW (T' := s₁) (g' := (mkF m 5 #[.val (.ref a), .val (.ref w)] [(.int (0 : Int32)), (.int (0 : Int32)), (.ref w), (.ref a)])) (own_len X0 hx hZ e0 Vw (z := (0 : Int32)) rfl (g := (mkF m 4 #[.val (.ref a), .val (.ref w)] [(.ref w), (.int (0 : Int32)), (.ref w), (.ref a)])) rfl rfl (hb hby d2_4)) ?_
  refine own_stW (T' := s₁) (g' := (mkF m 6 #[.val (.ref a), .val (.ref w)] [.null, (.int (0 : Int32)), (.int (0 : Int32)), (.ref w), (.ref a)])) (fun _ k => XS.aconstNull X0.here hx rfl (hb hby d2_5) k) ?_
  obtain ⟨vq18, _, ⟨T18, L18, k18, n18⟩, -, X18, hS18, hg18, ⟨Lc18, hQ18, l18, y18, z18⟩, st18⟩ := X0.specialBackS hx (y := (⟨"java/lang/String", "<init>", "([CIILjava/lang/Void;)V"⟩ : MethodName)) rfl hown (mvT hZ (hw _ (List.mem_of_getElem? (i := 11) rfl))) (mvT hZ (hw _ (List.mem_of_getElem? (i := 12) rfl))) (mvT hZ (hw _ (List.mem_of_getElem? (i := 14) rfl))) (by decide) (own_backH (W := 0) (own_i4 l Z a0 hw [] a w h0 n0 Z0 Fv Fc Ea ga) hZ (hw _ (List.mem_of_getElem? (i := 14) rfl)) (hw _ (List.mem_of_getElem? (i := 6) rfl)) (by decide) (by decide) hEL hH) (g := (mkF m 6 #[.val (.ref a), .val (.ref w)] [.null, (.int (0 : Int32)), (.int (0 : Int32)), (.ref w), (.ref a)])) rfl (by rw [hml]; rfl) (Steps.refl _) (a := a) (argsL := [(.ref w), (.int (0 : Int32)), (.int (0 : Int32)), .null]) (rest := []) (lenOf own_pd3 rfl) rfl (by show 2 * 0 + _ ≤ _; exact Nat.le_of_eq rfl) (hb hby d2_6) (fun _ _ => ⟨rfl, e0, (by decide : 0 + 2 ≤ _), (by decide : 0 + 4 ≤ _)⟩)
  dsimp only [Pt.U, Pt.locs, Pt.cells, Pt.slots] at X18 l18 y18 z18 st18 hQ18
  subst l18 y18 z18
  obtain ⟨rfl, N18q, K18⟩ := hQ18
  have N0' := Fr.app N0 N18q
  have hS := foldS (s := s) hS (Nat.le_trans hk0 (Nat.le_of_eq (congrArg Array.size (Eq.symm (e0))))) hS18 hg18
  have hZ : Z.Warmed39 (s.setVm T18.vm).vm := State.Warmed39.trans (t := (s.setVm s.vm)) hZ hS18.1
  have hown : (s.setVm T18.vm).vm.findClass "java/lang/String" = some m.cls := by rw [show (s.setVm T18.vm).vm = T18.vm from rfl, hS18.1.alike.findClass]; exact hown
  have hk0 := Nat.le_refl T18.heap.size
  have X18 : Stand p l e ({ frames := 2, cells := 2, slots := 4, locals := 29 } : Room) (s.setVm T18.vm) m #[(.ref a), (.ref w)] below meth c T18 _ _ _ := X18
  have Ea := Ea.keep K18
  have Z0' := Nat.le_trans Z0 K18.1
  have Kp := Kp.trans K18 (allS (P := fun x => x ∈ [a] ∨ h0.size ≤ x) (Or.inl (List.mem_of_getElem? (i := 0) rfl)) all0)
  refine own_trW (T' := T18) (g' := (mkF m 9 #[.val (.ref a), .val (.ref w)] [])) st18 ?_
  exact own_ret0W X18 hS hx Bd.returns Bd.notSynchronized rfl hk0 (hb hby d2_9) ⟨rfl, N0', Kp⟩ (by decide) (by decide)
theorem own_pd4 : parseMethodDescriptor "([C)V" = some ⟨[(.array .char)], none⟩ := by decide +kernel
theorem d1_0 : decode method_2_code 0 = .ok (.iload_n 0, 1) := by decide +kernel
theorem d1_1 : decode method_2_code 1 = .ok (.ifCond .ne 14, 3) := by decide +kernel
theorem d1_4 : decode method_2_code 4 = .ok (.new 7, 3) := by decide +kernel
theorem d1_7 : decode method_2_code 7 = .ok (.dup, 1) := by decide +kernel
theorem d1_8 : decode method_2_code 8 = .ok (.iconst 0, 1) := by decide +kernel
theorem d1_9 : decode method_2_code 9 = .ok (.newarray .char, 2) := by decide +kernel
theorem d1_11 : decode method_2_code 11 = .ok (.invokespecial 9, 3) := by decide +kernel
theorem d1_14 : decode method_2_code 14 = .ok (.areturn, 1) := by decide +kernel
theorem d1_15 : decode method_2_code 15 = .ok (.iload_n 0, 1) := by decide +kernel
theorem d1_16 : decode method_2_code 16 = .ok (.iconst 1, 1) := by decide +kernel
theorem d1_17 : decode method_2_code 17 = .ok (.if_icmp .ne 18, 3) := by decide +kernel
theorem d1_20 : decode method_2_code 20 = .ok (.new 7, 3) := by decide +kernel
theorem d1_23 : decode method_2_code 23 = .ok (.dup, 1) := by decide +kernel
theorem d1_24 : decode method_2_code 24 = .ok (.iconst 1, 1) := by decide +kernel
theorem d1_25 : decode method_2_code 25 = .ok (.newarray .char, 2) := by decide +kernel
theorem d1_27 : decode method_2_code 27 = .ok (.dup, 1) := by decide +kernel
theorem d1_28 : decode method_2_code 28 = .ok (.iconst 0, 1) := by decide +kernel
theorem d1_29 : decode method_2_code 29 = .ok (.iload_n 1, 1) := by decide +kernel
theorem d1_30 : decode method_2_code 30 = .ok (.castore, 1) := by decide +kernel
theorem d1_31 : decode method_2_code 31 = .ok (.invokespecial 9, 3) := by decide +kernel
theorem d1_34 : decode method_2_code 34 = .ok (.areturn, 1) := by decide +kernel
theorem d1_35 : decode method_2_code 35 = .ok (.iload_n 0, 1) := by decide +kernel
theorem d1_36 : decode method_2_code 36 = .ok (.iconst 2, 1) := by decide +kernel
theorem d1_37 : decode method_2_code 37 = .ok (.if_icmp .ne 22, 3) := by decide +kernel
theorem d1_40 : decode method_2_code 40 = .ok (.new 7, 3) := by decide +kernel
theorem d1_43 : decode method_2_code 43 = .ok (.dup, 1) := by decide +kernel
theorem d1_44 : decode method_2_code 44 = .ok (.iconst 2, 1) := by decide +kernel
theorem d1_45 : decode method_2_code 45 = .ok (.newarray .char, 2) := by decide +kernel
theorem d1_47 : decode method_2_code 47 = .ok (.dup, 1) := by decide +kernel
theorem d1_48 : decode method_2_code 48 = .ok (.iconst 0, 1) := by decide +kernel
theorem d1_49 : decode method_2_code 49 = .ok (.iload_n 1, 1) := by decide +kernel
theorem d1_50 : decode method_2_code 50 = .ok (.castore, 1) := by decide +kernel
theorem d1_51 : decode method_2_code 51 = .ok (.dup, 1) := by decide +kernel
theorem d1_52 : decode method_2_code 52 = .ok (.iconst 1, 1) := by decide +kernel
theorem d1_53 : decode method_2_code 53 = .ok (.iload_n 2, 1) := by decide +kernel
theorem d1_54 : decode method_2_code 54 = .ok (.castore, 1) := by decide +kernel
theorem d1_55 : decode method_2_code 55 = .ok (.invokespecial 9, 3) := by decide +kernel
theorem d1_58 : decode method_2_code 58 = .ok (.areturn, 1) := by decide +kernel
theorem d1_59 : decode method_2_code 59 = .ok (.new 7, 3) := by decide +kernel
theorem d1_62 : decode method_2_code 62 = .ok (.dup, 1) := by decide +kernel
theorem d1_63 : decode method_2_code 63 = .ok (.iconst 3, 1) := by decide +kernel
theorem d1_64 : decode method_2_code 64 = .ok (.newarray .char, 2) := by decide +kernel
theorem d1_66 : decode method_2_code 66 = .ok (.dup, 1) := by decide +kernel
theorem d1_67 : decode method_2_code 67 = .ok (.iconst 0, 1) := by decide +kernel
theorem d1_68 : decode method_2_code 68 = .ok (.iload_n 1, 1) := by decide +kernel
theorem d1_69 : decode method_2_code 69 = .ok (.castore, 1) := by decide +kernel
theorem d1_70 : decode method_2_code 70 = .ok (.dup, 1) := by decide +kernel
theorem d1_71 : decode method_2_code 71 = .ok (.iconst 1, 1) := by decide +kernel
theorem d1_72 : decode method_2_code 72 = .ok (.iload_n 2, 1) := by decide +kernel
theorem d1_73 : decode method_2_code 73 = .ok (.castore, 1) := by decide +kernel
theorem d1_74 : decode method_2_code 74 = .ok (.dup, 1) := by decide +kernel
theorem d1_75 : decode method_2_code 75 = .ok (.iconst 2, 1) := by decide +kernel
theorem d1_76 : decode method_2_code 76 = .ok (.iload_n 3, 1) := by decide +kernel
theorem d1_77 : decode method_2_code 77 = .ok (.castore, 1) := by decide +kernel
theorem d1_78 : decode method_2_code 78 = .ok (.invokespecial 9, 3) := by decide +kernel
theorem d1_81 : decode method_2_code 81 = .ok (.areturn, 1) := by decide +kernel
theorem own_pn2 : plainName "com/example/idiolect/idiolect/internal/mf2/KeyIsCatchAllPinLaw" = true := by first | (simp [plainName, overriddenIn]; done) | decide +kernel
def own_draw_Q (Z : State) (z : Int32) (c0 : Int32) (c1 : Int32) (c2 : Int32) (cc : Int32) (h0 : Heap) (n0 : Nat) (v : Option Value) (h : Heap) (L : List Loc) : Prop := ∃ a, v = some (.ref a) ∧ Fr n0 L ∧ Keep h0 h []
set_option maxRecDepth 65536 in
set_option maxHeartbeats 40000000 in
theorem own_draw (l : Launch) (Z : State) (a0 : Array Value) (hw : ∀ d ∈ tables_1, d.before a0 Z = true) (ws : List Jvm.Cond) (z : Int32) (c0 : Int32) (c1 : Int32) (c2 : Int32) (cc : Int32) (h0 : Heap) (n0 : Nat) (Z0 : n0 ≤ h0.size) (O : Old Z n0 h0) (SC0 : Sta Z Z.heap "java/lang/String" "COMPACT_STRINGS" "Z" (.int cc)) (hcs : ¬ cc = (0 : Int32)) (h0c : (¬ c0 < 0 ∧ ¬ (255 : Int32) < c0) ∧ nar .char c0 = c0) (h1c : (¬ c1 < 0 ∧ ¬ (255 : Int32) < c1) ∧ nar .char c1 = c1) (h2c : (¬ c2 < 0 ∧ ¬ (255 : Int32) < c2) ∧ nar .char c2 = c2) :
    MetFree l (⟨"com/example/idiolect/idiolect/internal/mf2/KeyIsCatchAllPinLaw", "draw", "(ICCC)Ljava/lang/String;"⟩ : MethodName) (head1 (Jvm.Cond.code (⟨"com/example/idiolect/idiolect/internal/mf2/KeyIsCatchAllPinLaw", "draw", "(ICCC)Ljava/lang/String;"⟩ : MethodName) method_2_code 4 (some (.object "java/lang/String")) :: ws) ({ frames := 4, cells := 6, slots := 16, locals := 66 } : Room)) (fun aa U0 => aa = #[(.int z), (.int c0), (.int c1), (.int c2)] ∧ Z.Warmed39 U0.vm ∧ U0.heap = h0 ∧ CHv Z consts_1 U0.vm h0) (fun _ _ _ _ _ => True) (fun _ U0 o0 U1 => ∃ v0 L0, o0 = .returned v0 ∧ own_draw_Q Z z c0 c1 c2 cc h0 n0 v0 U1.heap L0 ∧ ReturnedEndW U0 o0 U1 L0 ({ frames := 4, cells := 6, slots := 16, locals := 66 } : Room).cells ({ frames := 4, cells := 6, slots := 16, locals := 66 } : Room).slots) := by
  refine MetFree.of_bodySF (plainFor_of_name own_pn2) hisR ?_
  intro p e s m args below meth c s₁ Bd hml0 hP hK
  obtain ⟨rfl, hZ, hh, hH⟩ := hP
  have hx := Bd.exec
  have hby := Bd.bytes
  have hml : c.maxLocals = 4 := hml0
  have hown : s.vm.findClass "com/example/idiolect/idiolect/internal/mf2/KeyIsCatchAllPinLaw" = some m.cls := findClass_of_methodNamed Bd.named
  have hnm := (name_of_methodNamed Bd.named Bd.method).1
  have X0 : Stand p l e ({ frames := 4, cells := 6, slots := 16, locals := 66 } : Room) s m #[(.int z), (.int c0), (.int c1), (.int c2)] below meth c s₁ [] 0 0 := Stand.of_body Bd
  have e0 : s₁.heap = h0 := by rw [← hh, Bd.state]; rfl
  have N0 := Fr.nil n0
  have X0 : Stand p l e ({ frames := 4, cells := 6, slots := 16, locals := 66 } : Room) (s.setVm s.vm) m #[(.int z), (.int c0), (.int c1), (.int c2)] below meth c s₁ [] 0 0 := X0
  have hS := (State.WarmedH.refl s).since 0
  have hk0 : 0 ≤ h0.size := Nat.zero_le _
  have wS : ∀ d ∈ Bundle.stringAtoms, d.before a0 Z = true := fun d hd => hw d ((by decide +kernel : ∀ d ∈ Bundle.stringAtoms, d ∈ tables_1) d hd)
  have hEL : EW Z a0 consts_1 := EW.cons (hw _ (List.mem_of_getElem? (i := 18) rfl)) (by decide) (EW.nil)
  show own_GoW p e below s (own_draw_Q Z z c0 c1 c2 cc h0 n0) 6 16 s₁ (entryFrame m #[(.int z), (.int c0), (.int c1), (.int c2)] 4)
  rw [show entryFrame m #[(.int z), (.int c0), (.int c1), (.int c2)] 4 = mkF m 0 #[.val (.int z), .val (.int c0), .val (.int c1), .val (.int c2)] [] from by first | (simp [entryFrame, mkF, argsToLocals, Value.category]; done) | rfl]
  have hws : ∀ d ∈ StrChars.Road.words, d.before a0 Z = true := fun d hd => hw d ((by decide +kernel : ∀ d ∈ StrChars.Road.words, d ∈ tables_1) d hd)
  have Kp := Keep.refl h0 []
  refine own_stW (T' := s₁) (g' := (mkF m 1 #[.val (.int z), .val (.int c0), .val (.int c1), .val (.int c2)] [(.int z)])) (fun _ k => XS.iloadN X0.here hx rfl (hb hby d1_0) rfl k) ?_
  by_cases q0 : z = (0 : Int32)
  · refine own_stW (T' := s₁) (g' := (mkF m 4 #[.val (.int z), .val (.int c0), .val (.int c1), .val (.int c2)] [])) (fun _ k => XS.ifNo X0.here hx rfl (hb hby d1_1) rfl (Jvm.Free.XT.i0_ne_f q0) k) ?_
    obtain ⟨T19, h19, X19, e19, E19, A19, D19, -, st19⟩ := newO X0 hx hZ hown (hw _ (List.mem_of_getElem? (i := 4) rfl)) (hw _ (List.mem_of_getElem? (i := 5) rfl)) (hw _ (List.mem_of_getElem? (i := 6) rfl)) e0 (g := (mkF m 4 #[.val (.int z), .val (.int c0), .val (.int c1), .val (.int c2)] [])) rfl (hb hby d1_4) (by decide) (by decide)
    obtain ⟨sa, gsa⟩ : ∃ z, z = h0.size := ⟨_, rfl⟩
    rw [← gsa] at A19 D19 st19
    have ge_sa : n0 ≤ sa := own_ge Z0 gsa
    have sz_sa : h0.size ≤ sa := own_ge Kp.1 gsa
    have O := O.ext E19
    have Z0' := Nat.le_trans Z0 E19.1
    have Kp := Kp.ext E19
    have hk0 := Nat.le_trans hk0 E19.1
    have hH := CHv.ext E19 hH
    have E_sa := A19
    have F_value_sa : Fld Z h19 sa "java/lang/String" "value" "[B" .null := D19 (Or.inr (hw _ (List.mem_of_getElem? (i := 20) rfl))) (ty := (.array .byte)) (by decide)
    have F_coder_sa : Fld Z h19 sa "java/lang/String" "coder" "B" (.int (0 : Int32)) := D19 (Or.inr (hw _ (List.mem_of_getElem? (i := 21) rfl))) (ty := .byte) (by decide)
    refine own_stW (T' := T19) (g' := (mkF m 7 #[.val (.int z), .val (.int c0), .val (.int c1), .val (.int c2)] [(.ref sa)])) st19 ?_
    refine own_stW (T' := T19) (g' := (mkF m 8 #[.val (.int z), .val (.int c0), .val (.int c1), .val (.int c2)] [(.ref sa), (.ref sa)])) (fun _ k => XS.dup X19.here hx rfl (hb hby d1_7) rfl rfl k) ?_
    refine own_stW (T' := T19) (g' := (mkF m 9 #[.val (.int z), .val (.int c0), .val (.int c1), .val (.int c2)] [(.int (0 : Int32)), (.ref sa), (.ref sa)])) (fun _ k => XS.iconst X19.here hx rfl (hb hby d1_8) k) ?_
    obtain ⟨T20, h20, k20, X20, e20, E20, A20, st20⟩ := newP X19 hx hZ (hw _ (List.mem_of_getElem? (i := 7) rfl)) e19 (g := (mkF m 9 #[.val (.int z), .val (.int c0), .val (.int c1), .val (.int c2)] [(.int (0 : Int32)), (.ref sa), (.ref sa)])) rfl (hb hby d1_9) rfl (by decide) (cap := 0) (by decide) (by decide) (by decide) (by decide)
    obtain ⟨ca, gca⟩ : ∃ z, z = h19.size := ⟨_, rfl⟩
    rw [← gca] at A20 st20
    have ne_sa_ca : sa ≠ ca := own_ne E_sa.lt gca
    have ge_ca : n0 ≤ ca := own_ge Z0' gca
    have sz_ca : h0.size ≤ ca := own_ge Kp.1 gca
    have O := O.ext E20
    have E_sa := E_sa.ext E20
    have F_value_sa := F_value_sa.ext E20
    have F_coder_sa := F_coder_sa.ext E20
    have Z0'' := Nat.le_trans Z0' E20.1
    have Kp := Kp.ext E20
    have hk0 := Nat.le_trans hk0 E20.1
    have hH := CHv.ext E20 hH
    have V_ca := own_Av.new (n := 0) A20 rfl
    refine own_stW (T' := T20) (g' := (mkF m 11 #[.val (.int z), .val (.int c0), .val (.int c1), .val (.int c2)] [(.ref ca), (.ref sa), (.ref sa)])) st20 ?_
    obtain ⟨vq21, _, ⟨T21, L21, k21, n21⟩, -, X21, hS21, hg21, ⟨Lc21, hQ21, l21, y21, z21⟩, st21⟩ := X20.specialBackS hx (y := (⟨"java/lang/String", "<init>", "([C)V"⟩ : MethodName)) rfl hown (mvT hZ (hw _ (List.mem_of_getElem? (i := 8) rfl))) (mvT hZ (hw _ (List.mem_of_getElem? (i := 9) rfl))) (mvT hZ (hw _ (List.mem_of_getElem? (i := 10) rfl))) (by decide) (own_backH (W := 1) (own_i1 l Z a0 hw [] sa ca _ _ h20 n0 Z0'' F_value_sa F_coder_sa E_sa ge_sa V_ca) hZ (hw _ (List.mem_of_getElem? (i := 10) rfl)) (hw _ (List.mem_of_getElem? (i := 6) rfl)) (by decide) (by decide) hEL hH) (g := (mkF m 11 #[.val (.int z), .val (.int c0), .val (.int c1), .val (.int c2)] [(.ref ca), (.ref sa), (.ref sa)])) rfl (by rw [hml]; rfl) (Steps.refl _) (a := sa) (argsL := [(.ref ca)]) (rest := [(.ref sa)]) (lenOf own_pd4 rfl) rfl (by show 2 * 0 + _ ≤ _; exact Nat.le_of_eq rfl) (hb hby d1_11) (fun _ _ => ⟨rfl, e20, (by decide : ((0 + 1) + 1) + 2 ≤ _), (by decide : ((0 + 4) + 0) + 4 ≤ _)⟩)
    dsimp only [Pt.U, Pt.locs, Pt.cells, Pt.slots] at X21 l21 y21 z21 st21 hQ21
    subst l21 y21 z21
    obtain ⟨rfl, N21q, K21⟩ := hQ21
    have N0' := Fr.app N0 N21q
    have hS := foldS (s := s) hS (Nat.le_trans hk0 (Nat.le_of_eq (congrArg Array.size (Eq.symm (e20))))) hS21 hg21
    have hZ : Z.Warmed39 (s.setVm T21.vm).vm := State.Warmed39.trans (t := (s.setVm s.vm)) hZ hS21.1
    have hown : (s.setVm T21.vm).vm.findClass "com/example/idiolect/idiolect/internal/mf2/KeyIsCatchAllPinLaw" = some m.cls := by rw [show (s.setVm T21.vm).vm = T21.vm from rfl, hS21.1.alike.findClass]; exact hown
    have hk0 := Nat.le_refl T21.heap.size
    have X21 : Stand p l e ({ frames := 4, cells := 6, slots := 16, locals := 66 } : Room) (s.setVm T21.vm) m #[(.int z), (.int c0), (.int c1), (.int c2)] below meth c T21 _ _ _ := X21
    have O := O.keep K21 ((allS ge_sa all0))
    have E_sa := E_sa.keep K21
    have V_ca := V_ca.keep K21 (ninS (Ne.symm ne_sa_ca) nin0)
    have Z0''' := Nat.le_trans Z0'' K21.1
    have Kp := Kp.trans K21 (allS (P := fun x => x ∈ [] ∨ h0.size ≤ x) (Or.inr sz_sa) all0)
    refine own_trW (T' := T21) (g' := (mkF m 14 #[.val (.int z), .val (.int c0), .val (.int c1), .val (.int c2)] [(.ref sa)])) st21 ?_
    exact own_retRW X21 hS hx Bd.returns Bd.notSynchronized rfl hk0 rfl rfl (hb hby d1_14) ⟨sa, rfl, N0', Kp⟩ (by decide) (by decide)
  · refine own_stW (T' := s₁) (g' := (mkF m 15 #[.val (.int z), .val (.int c0), .val (.int c1), .val (.int c2)] [])) (fun _ k => XS.ifYes X0.here hx rfl (pc0 := 1) (pc' := 15) rfl (hb hby d1_1) rfl (Jvm.Free.XT.i0_ne_t q0) (by decide) (by decide) k) ?_
    refine own_stW (T' := s₁) (g' := (mkF m 16 #[.val (.int z), .val (.int c0), .val (.int c1), .val (.int c2)] [(.int z)])) (fun _ k => XS.iloadN X0.here hx rfl (hb hby d1_15) rfl k) ?_
    refine own_stW (T' := s₁) (g' := (mkF m 17 #[.val (.int z), .val (.int c0), .val (.int c1), .val (.int c2)] [(.int (1 : Int32)), (.int z)])) (fun _ k => XS.iconst X0.here hx rfl (hb hby d1_16) k) ?_
    by_cases q1 : z = (1 : Int32)
    · refine own_stW (T' := s₁) (g' := (mkF m 20 #[.val (.int z), .val (.int c0), .val (.int c1), .val (.int c2)] [])) (fun _ k => XS.icmpNo X0.here hx rfl (hb hby d1_17) rfl (Jvm.Free.XT.ii_ne_f q1) k) ?_
      obtain ⟨T22, h22, X22, e22, E22, A22, D22, -, st22⟩ := newO X0 hx hZ hown (hw _ (List.mem_of_getElem? (i := 4) rfl)) (hw _ (List.mem_of_getElem? (i := 5) rfl)) (hw _ (List.mem_of_getElem? (i := 6) rfl)) e0 (g := (mkF m 20 #[.val (.int z), .val (.int c0), .val (.int c1), .val (.int c2)] [])) rfl (hb hby d1_20) (by decide) (by decide)
      obtain ⟨sa, gsa⟩ : ∃ z, z = h0.size := ⟨_, rfl⟩
      rw [← gsa] at A22 D22 st22
      have ge_sa : n0 ≤ sa := own_ge Z0 gsa
      have sz_sa : h0.size ≤ sa := own_ge Kp.1 gsa
      have O := O.ext E22
      have Z0' := Nat.le_trans Z0 E22.1
      have Kp := Kp.ext E22
      have hk0 := Nat.le_trans hk0 E22.1
      have hH := CHv.ext E22 hH
      have E_sa := A22
      have F_value_sa : Fld Z h22 sa "java/lang/String" "value" "[B" .null := D22 (Or.inr (hw _ (List.mem_of_getElem? (i := 20) rfl))) (ty := (.array .byte)) (by decide)
      have F_coder_sa : Fld Z h22 sa "java/lang/String" "coder" "B" (.int (0 : Int32)) := D22 (Or.inr (hw _ (List.mem_of_getElem? (i := 21) rfl))) (ty := .byte) (by decide)
      refine own_stW (T' := T22) (g' := (mkF m 23 #[.val (.int z), .val (.int c0), .val (.int c1), .val (.int c2)] [(.ref sa)])) st22 ?_
      refine own_stW (T' := T22) (g' := (mkF m 24 #[.val (.int z), .val (.int c0), .val (.int c1), .val (.int c2)] [(.ref sa), (.ref sa)])) (fun _ k => XS.dup X22.here hx rfl (hb hby d1_23) rfl rfl k) ?_
      refine own_stW (T' := T22) (g' := (mkF m 25 #[.val (.int z), .val (.int c0), .val (.int c1), .val (.int c2)] [(.int (1 : Int32)), (.ref sa), (.ref sa)])) (fun _ k => XS.iconst X22.here hx rfl (hb hby d1_24) k) ?_
      obtain ⟨T23, h23, k23, X23, e23, E23, A23, st23⟩ := newP X22 hx hZ (hw _ (List.mem_of_getElem? (i := 7) rfl)) e22 (g := (mkF m 25 #[.val (.int z), .val (.int c0), .val (.int c1), .val (.int c2)] [(.int (1 : Int32)), (.ref sa), (.ref sa)])) rfl (hb hby d1_25) rfl (by decide) (cap := 1) (by decide) (by decide) (by decide) (by decide)
      obtain ⟨ca, gca⟩ : ∃ z, z = h22.size := ⟨_, rfl⟩
      rw [← gca] at A23 st23
      have ne_sa_ca : sa ≠ ca := own_ne E_sa.lt gca
      have ge_ca : n0 ≤ ca := own_ge Z0' gca
      have sz_ca : h0.size ≤ ca := own_ge Kp.1 gca
      have O := O.ext E23
      have E_sa := E_sa.ext E23
      have F_value_sa := F_value_sa.ext E23
      have F_coder_sa := F_coder_sa.ext E23
      have Z0'' := Nat.le_trans Z0' E23.1
      have Kp := Kp.ext E23
      have hk0 := Nat.le_trans hk0 E23.1
      have hH := CHv.ext E23 hH
      have V_ca := own_Av.new (n := 1) A23 rfl
      refine own_stW (T' := T23) (g' := (mkF m 27 #[.val (.int z), .val (.int c0), .val (.int c1), .val (.int c2)] [(.ref ca), (.ref sa), (.ref sa)])) st23 ?_
      refine own_stW (T' := T23) (g' := (mkF m 28 #[.val (.int z), .val (.int c0), .val (.int c1), .val (.int c2)] [(.ref ca), (.ref ca), (.ref sa), (.ref sa)])) (fun _ k => XS.dup X23.here hx rfl (hb hby d1_27) rfl rfl k) ?_
      refine own_stW (T' := T23) (g' := (mkF m 29 #[.val (.int z), .val (.int c0), .val (.int c1), .val (.int c2)] [(.int (0 : Int32)), (.ref ca), (.ref ca), (.ref sa), (.ref sa)])) (fun _ k => XS.iconst X23.here hx rfl (hb hby d1_28) k) ?_
      refine own_stW (T' := T23) (g' := (mkF m 30 #[.val (.int z), .val (.int c0), .val (.int c1), .val (.int c2)] [(.int c0), (.int (0 : Int32)), (.ref ca), (.ref ca), (.ref sa), (.ref sa)])) (fun _ k => XS.iloadN X23.here hx rfl (hb hby d1_29) rfl k) ?_
      obtain ⟨T24, h24, X24, e24, W24, V24, st24⟩ := own_stC X23 hx hZ e23 V_ca (i := 0) (by decide) (by decide) (g := (mkF m 30 #[.val (.int z), .val (.int c0), .val (.int c1), .val (.int c2)] [(.int c0), (.int (0 : Int32)), (.ref ca), (.ref ca), (.ref sa), (.ref sa)])) rfl rfl (hb hby d1_30)
      have O := O.wr W24 ge_ca
      have E_sa := E_sa.wr W24
      have F_value_sa := F_value_sa.other W24 (Or.inl ne_sa_ca)
      have F_coder_sa := F_coder_sa.other W24 (Or.inl ne_sa_ca)
      have Z0''' := Nat.le_trans Z0'' (Keep.of_wr W24).1
      have Kp := Kp.wr W24 (Or.inr sz_ca)
      have hk0 := Nat.le_trans hk0 (Keep.of_wr W24).1
      have N0' := Fr.snoc X24 N0 ge_ca
      have V_ca := V24
      refine own_stW (T' := T24) (g' := (mkF m 31 #[.val (.int z), .val (.int c0), .val (.int c1), .val (.int c2)] [(.ref ca), (.ref sa), (.ref sa)])) st24 ?_
      have K_sa : Arv Z h24 ca k23 .char (1 : Int32) (([c0] : List Int32).map Value.int) (.int 0) := V_ca.arv rfl (by decide) rfl (fun i hi => by obtain rfl : i = 0 := (by omega); first | exact congrArg Value.int h0c.2 | exact congrArg Value.int h1c.2 | exact congrArg Value.int h2c.2) (own_hp1 h0c)
      obtain ⟨vq25, _, ⟨T25, L25, k25, n25⟩, -, X25, ⟨Lc25, hQ25, l25, y25, z25⟩, st25⟩ := X24.specialBack hx (y := (⟨"java/lang/String", "<init>", "([C)V"⟩ : MethodName)) rfl hown (mvT hZ (hw _ (List.mem_of_getElem? (i := 8) rfl))) (mvT hZ (hw _ (List.mem_of_getElem? (i := 9) rfl))) (mvT hZ (hw _ (List.mem_of_getElem? (i := 10) rfl))) (by decide) (StrChars.Road.backV (W := 1) hZ hws (kI := 4) (hw _ (List.mem_of_getElem? (i := 5) rfl)) (cs := ([c0] : List Int32)) (bs := ([c0] : List Int32).map (fun c => c.toInt8.toInt32)) (n := 1) ge_sa Z0''' E_sa F_value_sa F_coder_sa K_sa (SC0.ext O.2) hcs rfl rfl (by decide) (by decide) (own_hp1 h0c) rfl (by decide) (by decide)) (g := (mkF m 31 #[.val (.int z), .val (.int c0), .val (.int c1), .val (.int c2)] [(.ref ca), (.ref sa), (.ref sa)])) rfl (by rw [hml]; rfl) (Steps.refl _) (a := sa) (argsL := [(.ref ca)]) (rest := [(.ref sa)]) (lenOf own_pd4 rfl) rfl (by show 2 * 0 + _ ≤ _; exact Nat.le_of_eq rfl) (hb hby d1_31) (fun _ _ => ⟨rfl, e24, (by decide : ((0 + 1) + 1) + 1 ≤ _), (by decide : ((0 + 4) + 1) + 1 ≤ _)⟩)
      dsimp only [Pt.U, Pt.locs, Pt.cells, Pt.slots] at X25 l25 y25 z25 st25 hQ25
      subst l25 y25 z25
      obtain ⟨rfl, N25q, K25, -, -, -⟩ := hQ25
      have N0'' := Fr.app N0' N25q
      have O := O.keep K25 ((allS ge_sa all0))
      have E_sa := E_sa.keep K25
      have V_ca := V_ca.keep K25 (ninS (Ne.symm ne_sa_ca) nin0)
      have Z0'''' := Nat.le_trans Z0''' K25.1
      have hk0 := Nat.le_trans hk0 K25.1
      have Kp := Kp.trans K25 (allS (P := fun x => x ∈ [] ∨ h0.size ≤ x) (Or.inr sz_sa) all0)
      refine own_trW (T' := T25) (g' := (mkF m 34 #[.val (.int z), .val (.int c0), .val (.int c1), .val (.int c2)] [(.ref sa)])) st25 ?_
      exact own_retRW X25 hS hx Bd.returns Bd.notSynchronized rfl hk0 rfl rfl (hb hby d1_34) ⟨sa, rfl, N0'', Kp⟩ (by decide) (by decide)
    · refine own_stW (T' := s₁) (g' := (mkF m 35 #[.val (.int z), .val (.int c0), .val (.int c1), .val (.int c2)] [])) (fun _ k => XS.icmpYes X0.here hx rfl (pc0 := 17) (pc' := 35) rfl (hb hby d1_17) rfl (Jvm.Free.XT.ii_ne_t q1) (by decide) (by decide) k) ?_
      refine own_stW (T' := s₁) (g' := (mkF m 36 #[.val (.int z), .val (.int c0), .val (.int c1), .val (.int c2)] [(.int z)])) (fun _ k => XS.iloadN X0.here hx rfl (hb hby d1_35) rfl k) ?_
      refine own_stW (T' := s₁) (g' := (mkF m 37 #[.val (.int z), .val (.int c0), .val (.int c1), .val (.int c2)] [(.int (2 : Int32)), (.int z)])) (fun _ k => XS.iconst X0.here hx rfl (hb hby d1_36) k) ?_
      by_cases q2 : z = (2 : Int32)
      · refine own_stW (T' := s₁) (g' := (mkF m 40 #[.val (.int z), .val (.int c0), .val (.int c1), .val (.int c2)] [])) (fun _ k => XS.icmpNo X0.here hx rfl (hb hby d1_37) rfl (Jvm.Free.XT.ii_ne_f q2) k) ?_
        obtain ⟨T26, h26, X26, e26, E26, A26, D26, -, st26⟩ := newO X0 hx hZ hown (hw _ (List.mem_of_getElem? (i := 4) rfl)) (hw _ (List.mem_of_getElem? (i := 5) rfl)) (hw _ (List.mem_of_getElem? (i := 6) rfl)) e0 (g := (mkF m 40 #[.val (.int z), .val (.int c0), .val (.int c1), .val (.int c2)] [])) rfl (hb hby d1_40) (by decide) (by decide)
        obtain ⟨sa, gsa⟩ : ∃ z, z = h0.size := ⟨_, rfl⟩
        rw [← gsa] at A26 D26 st26
        have ge_sa : n0 ≤ sa := own_ge Z0 gsa
        have sz_sa : h0.size ≤ sa := own_ge Kp.1 gsa
        have O := O.ext E26
        have Z0' := Nat.le_trans Z0 E26.1
        have Kp := Kp.ext E26
        have hk0 := Nat.le_trans hk0 E26.1
        have hH := CHv.ext E26 hH
        have E_sa := A26
        have F_value_sa : Fld Z h26 sa "java/lang/String" "value" "[B" .null := D26 (Or.inr (hw _ (List.mem_of_getElem? (i := 20) rfl))) (ty := (.array .byte)) (by decide)
        have F_coder_sa : Fld Z h26 sa "java/lang/String" "coder" "B" (.int (0 : Int32)) := D26 (Or.inr (hw _ (List.mem_of_getElem? (i := 21) rfl))) (ty := .byte) (by decide)
        refine own_stW (T' := T26) (g' := (mkF m 43 #[.val (.int z), .val (.int c0), .val (.int c1), .val (.int c2)] [(.ref sa)])) st26 ?_
        refine own_stW (T' := T26) (g' := (mkF m 44 #[.val (.int z), .val (.int c0), .val (.int c1), .val (.int c2)] [(.ref sa), (.ref sa)])) (fun _ k => XS.dup X26.here hx rfl (hb hby d1_43) rfl rfl k) ?_
        refine own_stW (T' := T26) (g' := (mkF m 45 #[.val (.int z), .val (.int c0), .val (.int c1), .val (.int c2)] [(.int (2 : Int32)), (.ref sa), (.ref sa)])) (fun _ k => XS.iconst X26.here hx rfl (hb hby d1_44) k) ?_
        obtain ⟨T27, h27, k27, X27, e27, E27, A27, st27⟩ := newP X26 hx hZ (hw _ (List.mem_of_getElem? (i := 7) rfl)) e26 (g := (mkF m 45 #[.val (.int z), .val (.int c0), .val (.int c1), .val (.int c2)] [(.int (2 : Int32)), (.ref sa), (.ref sa)])) rfl (hb hby d1_45) rfl (by decide) (cap := 2) (by decide) (by decide) (by decide) (by decide)
        obtain ⟨ca, gca⟩ : ∃ z, z = h26.size := ⟨_, rfl⟩
        rw [← gca] at A27 st27
        have ne_sa_ca : sa ≠ ca := own_ne E_sa.lt gca
        have ge_ca : n0 ≤ ca := own_ge Z0' gca
        have sz_ca : h0.size ≤ ca := own_ge Kp.1 gca
        have O := O.ext E27
        have E_sa := E_sa.ext E27
        have F_value_sa := F_value_sa.ext E27
        have F_coder_sa := F_coder_sa.ext E27
        have Z0'' := Nat.le_trans Z0' E27.1
        have Kp := Kp.ext E27
        have hk0 := Nat.le_trans hk0 E27.1
        have hH := CHv.ext E27 hH
        have V_ca := own_Av.new (n := 2) A27 rfl
        refine own_stW (T' := T27) (g' := (mkF m 47 #[.val (.int z), .val (.int c0), .val (.int c1), .val (.int c2)] [(.ref ca), (.ref sa), (.ref sa)])) st27 ?_
        refine own_stW (T' := T27) (g' := (mkF m 48 #[.val (.int z), .val (.int c0), .val (.int c1), .val (.int c2)] [(.ref ca), (.ref ca), (.ref sa), (.ref sa)])) (fun _ k => XS.dup X27.here hx rfl (hb hby d1_47) rfl rfl k) ?_
        refine own_stW (T' := T27) (g' := (mkF m 49 #[.val (.int z), .val (.int c0), .val (.int c1), .val (.int c2)] [(.int (0 : Int32)), (.ref ca), (.ref ca), (.ref sa), (.ref sa)])) (fun _ k => XS.iconst X27.here hx rfl (hb hby d1_48) k) ?_
        refine own_stW (T' := T27) (g' := (mkF m 50 #[.val (.int z), .val (.int c0), .val (.int c1), .val (.int c2)] [(.int c0), (.int (0 : Int32)), (.ref ca), (.ref ca), (.ref sa), (.ref sa)])) (fun _ k => XS.iloadN X27.here hx rfl (hb hby d1_49) rfl k) ?_
        obtain ⟨T28, h28, X28, e28, W28, V28, st28⟩ := own_stC X27 hx hZ e27 V_ca (i := 0) (by decide) (by decide) (g := (mkF m 50 #[.val (.int z), .val (.int c0), .val (.int c1), .val (.int c2)] [(.int c0), (.int (0 : Int32)), (.ref ca), (.ref ca), (.ref sa), (.ref sa)])) rfl rfl (hb hby d1_50)
        have O := O.wr W28 ge_ca
        have E_sa := E_sa.wr W28
        have F_value_sa := F_value_sa.other W28 (Or.inl ne_sa_ca)
        have F_coder_sa := F_coder_sa.other W28 (Or.inl ne_sa_ca)
        have Z0''' := Nat.le_trans Z0'' (Keep.of_wr W28).1
        have Kp := Kp.wr W28 (Or.inr sz_ca)
        have hk0 := Nat.le_trans hk0 (Keep.of_wr W28).1
        have N0' := Fr.snoc X28 N0 ge_ca
        have V_ca := V28
        refine own_stW (T' := T28) (g' := (mkF m 51 #[.val (.int z), .val (.int c0), .val (.int c1), .val (.int c2)] [(.ref ca), (.ref sa), (.ref sa)])) st28 ?_
        refine own_stW (T' := T28) (g' := (mkF m 52 #[.val (.int z), .val (.int c0), .val (.int c1), .val (.int c2)] [(.ref ca), (.ref ca), (.ref sa), (.ref sa)])) (fun _ k => XS.dup X28.here hx rfl (hb hby d1_51) rfl rfl k) ?_
        refine own_stW (T' := T28) (g' := (mkF m 53 #[.val (.int z), .val (.int c0), .val (.int c1), .val (.int c2)] [(.int (1 : Int32)), (.ref ca), (.ref ca), (.ref sa), (.ref sa)])) (fun _ k => XS.iconst X28.here hx rfl (hb hby d1_52) k) ?_
        refine own_stW (T' := T28) (g' := (mkF m 54 #[.val (.int z), .val (.int c0), .val (.int c1), .val (.int c2)] [(.int c1), (.int (1 : Int32)), (.ref ca), (.ref ca), (.ref sa), (.ref sa)])) (fun _ k => XS.iloadN X28.here hx rfl (hb hby d1_53) rfl k) ?_
        obtain ⟨T29, h29, X29, e29, W29, V29, st29⟩ := own_stC X28 hx hZ e28 V_ca (i := 1) (by decide) (by decide) (g := (mkF m 54 #[.val (.int z), .val (.int c0), .val (.int c1), .val (.int c2)] [(.int c1), (.int (1 : Int32)), (.ref ca), (.ref ca), (.ref sa), (.ref sa)])) rfl rfl (hb hby d1_54)
        have O := O.wr W29 ge_ca
        have E_sa := E_sa.wr W29
        have F_value_sa := F_value_sa.other W29 (Or.inl ne_sa_ca)
        have F_coder_sa := F_coder_sa.other W29 (Or.inl ne_sa_ca)
        have Z0'''' := Nat.le_trans Z0''' (Keep.of_wr W29).1
        have Kp := Kp.wr W29 (Or.inr sz_ca)
        have hk0 := Nat.le_trans hk0 (Keep.of_wr W29).1
        have N0'' := Fr.snoc X29 N0' ge_ca
        have V_ca := V29
        refine own_stW (T' := T29) (g' := (mkF m 55 #[.val (.int z), .val (.int c0), .val (.int c1), .val (.int c2)] [(.ref ca), (.ref sa), (.ref sa)])) st29 ?_
        have K_sa : Arv Z h29 ca k27 .char (2 : Int32) (([c0, c1] : List Int32).map Value.int) (.int 0) := V_ca.arv rfl (by decide) rfl (fun i hi => by rcases (by omega : i = 0 ∨ i = 1) with rfl | rfl <;> first | exact congrArg Value.int h0c.2 | exact congrArg Value.int h1c.2 | exact congrArg Value.int h2c.2) (own_hp2 h0c h1c)
        obtain ⟨vq30, _, ⟨T30, L30, k30, n30⟩, -, X30, ⟨Lc30, hQ30, l30, y30, z30⟩, st30⟩ := X29.specialBack hx (y := (⟨"java/lang/String", "<init>", "([C)V"⟩ : MethodName)) rfl hown (mvT hZ (hw _ (List.mem_of_getElem? (i := 8) rfl))) (mvT hZ (hw _ (List.mem_of_getElem? (i := 9) rfl))) (mvT hZ (hw _ (List.mem_of_getElem? (i := 10) rfl))) (by decide) (StrChars.Road.backV (W := 1) hZ hws (kI := 4) (hw _ (List.mem_of_getElem? (i := 5) rfl)) (cs := ([c0, c1] : List Int32)) (bs := ([c0, c1] : List Int32).map (fun c => c.toInt8.toInt32)) (n := 2) ge_sa Z0'''' E_sa F_value_sa F_coder_sa K_sa (SC0.ext O.2) hcs rfl rfl (by decide) (by decide) (own_hp2 h0c h1c) rfl (by decide) (by decide)) (g := (mkF m 55 #[.val (.int z), .val (.int c0), .val (.int c1), .val (.int c2)] [(.ref ca), (.ref sa), (.ref sa)])) rfl (by rw [hml]; rfl) (Steps.refl _) (a := sa) (argsL := [(.ref ca)]) (rest := [(.ref sa)]) (lenOf own_pd4 rfl) rfl (by show 2 * 0 + _ ≤ _; exact Nat.le_of_eq rfl) (hb hby d1_55) (fun _ _ => ⟨rfl, e29, (by decide : ((0 + 1) + 1) + 1 ≤ _), (by decide : ((0 + 4) + 2) + 2 ≤ _)⟩)
        dsimp only [Pt.U, Pt.locs, Pt.cells, Pt.slots] at X30 l30 y30 z30 st30 hQ30
        subst l30 y30 z30
        obtain ⟨rfl, N30q, K30, -, -, -⟩ := hQ30
        have N0''' := Fr.app N0'' N30q
        have O := O.keep K30 ((allS ge_sa all0))
        have E_sa := E_sa.keep K30
        have V_ca := V_ca.keep K30 (ninS (Ne.symm ne_sa_ca) nin0)
        have Z0''''' := Nat.le_trans Z0'''' K30.1
        have hk0 := Nat.le_trans hk0 K30.1
        have Kp := Kp.trans K30 (allS (P := fun x => x ∈ [] ∨ h0.size ≤ x) (Or.inr sz_sa) all0)
        refine own_trW (T' := T30) (g' := (mkF m 58 #[.val (.int z), .val (.int c0), .val (.int c1), .val (.int c2)] [(.ref sa)])) st30 ?_
        exact own_retRW X30 hS hx Bd.returns Bd.notSynchronized rfl hk0 rfl rfl (hb hby d1_58) ⟨sa, rfl, N0''', Kp⟩ (by decide) (by decide)
      · refine own_stW (T' := s₁) (g' := (mkF m 59 #[.val (.int z), .val (.int c0), .val (.int c1), .val (.int c2)] [])) (fun _ k => XS.icmpYes X0.here hx rfl (pc0 := 37) (pc' := 59) rfl (hb hby d1_37) rfl (Jvm.Free.XT.ii_ne_t q2) (by decide) (by decide) k) ?_
        obtain ⟨T31, h31, X31, e31, E31, A31, D31, -, st31⟩ := newO X0 hx hZ hown (hw _ (List.mem_of_getElem? (i := 4) rfl)) (hw _ (List.mem_of_getElem? (i := 5) rfl)) (hw _ (List.mem_of_getElem? (i := 6) rfl)) e0 (g := (mkF m 59 #[.val (.int z), .val (.int c0), .val (.int c1), .val (.int c2)] [])) rfl (hb hby d1_59) (by decide) (by decide)
        obtain ⟨sa, gsa⟩ : ∃ z, z = h0.size := ⟨_, rfl⟩
        rw [← gsa] at A31 D31 st31
        have ge_sa : n0 ≤ sa := own_ge Z0 gsa
        have sz_sa : h0.size ≤ sa := own_ge Kp.1 gsa
        have O := O.ext E31
        have Z0' := Nat.le_trans Z0 E31.1
        have Kp := Kp.ext E31
        have hk0 := Nat.le_trans hk0 E31.1
        have hH := CHv.ext E31 hH
        have E_sa := A31
        have F_value_sa : Fld Z h31 sa "java/lang/String" "value" "[B" .null := D31 (Or.inr (hw _ (List.mem_of_getElem? (i := 20) rfl))) (ty := (.array .byte)) (by decide)
        have F_coder_sa : Fld Z h31 sa "java/lang/String" "coder" "B" (.int (0 : Int32)) := D31 (Or.inr (hw _ (List.mem_of_getElem? (i := 21) rfl))) (ty := .byte) (by decide)
        refine own_stW (T' := T31) (g' := (mkF m 62 #[.val (.int z), .val (.int c0), .val (.int c1), .val (.int c2)] [(.ref sa)])) st31 ?_
        refine own_stW (T' := T31) (g' := (mkF m 63 #[.val (.int z), .val (.int c0), .val (.int c1), .val (.int c2)] [(.ref sa), (.ref sa)])) (fun _ k => XS.dup X31.here hx rfl (hb hby d1_62) rfl rfl k) ?_
        refine own_stW (T' := T31) (g' := (mkF m 64 #[.val (.int z), .val (.int c0), .val (.int c1), .val (.int c2)] [(.int (3 : Int32)), (.ref sa), (.ref sa)])) (fun _ k => XS.iconst X31.here hx rfl (hb hby d1_63) k) ?_
        obtain ⟨T32, h32, k32, X32, e32, E32, A32, st32⟩ := newP X31 hx hZ (hw _ (List.mem_of_getElem? (i := 7) rfl)) e31 (g := (mkF m 64 #[.val (.int z), .val (.int c0), .val (.int c1), .val (.int c2)] [(.int (3 : Int32)), (.ref sa), (.ref sa)])) rfl (hb hby d1_64) rfl (by decide) (cap := 3) (by decide) (by decide) (by decide) (by decide)
        obtain ⟨ca, gca⟩ : ∃ z, z = h31.size := ⟨_, rfl⟩
        rw [← gca] at A32 st32
        have ne_sa_ca : sa ≠ ca := own_ne E_sa.lt gca
        have ge_ca : n0 ≤ ca := own_ge Z0' gca
        have sz_ca : h0.size ≤ ca := own_ge Kp.1 gca
        have O := O.ext E32
        have E_sa := E_sa.ext E32
        have F_value_sa := F_value_sa.ext E32
        have F_coder_sa := F_coder_sa.ext E32
        have Z0'' := Nat.le_trans Z0' E32.1
        have Kp := Kp.ext E32
        have hk0 := Nat.le_trans hk0 E32.1
        have hH := CHv.ext E32 hH
        have V_ca := own_Av.new (n := 3) A32 rfl
        refine own_stW (T' := T32) (g' := (mkF m 66 #[.val (.int z), .val (.int c0), .val (.int c1), .val (.int c2)] [(.ref ca), (.ref sa), (.ref sa)])) st32 ?_
        refine own_stW (T' := T32) (g' := (mkF m 67 #[.val (.int z), .val (.int c0), .val (.int c1), .val (.int c2)] [(.ref ca), (.ref ca), (.ref sa), (.ref sa)])) (fun _ k => XS.dup X32.here hx rfl (hb hby d1_66) rfl rfl k) ?_
        refine own_stW (T' := T32) (g' := (mkF m 68 #[.val (.int z), .val (.int c0), .val (.int c1), .val (.int c2)] [(.int (0 : Int32)), (.ref ca), (.ref ca), (.ref sa), (.ref sa)])) (fun _ k => XS.iconst X32.here hx rfl (hb hby d1_67) k) ?_
        refine own_stW (T' := T32) (g' := (mkF m 69 #[.val (.int z), .val (.int c0), .val (.int c1), .val (.int c2)] [(.int c0), (.int (0 : Int32)), (.ref ca), (.ref ca), (.ref sa), (.ref sa)])) (fun _ k => XS.iloadN X32.here hx rfl (hb hby d1_68) rfl k) ?_
        obtain ⟨T33, h33, X33, e33, W33, V33, st33⟩ := own_stC X32 hx hZ e32 V_ca (i := 0) (by decide) (by decide) (g := (mkF m 69 #[.val (.int z), .val (.int c0), .val (.int c1), .val (.int c2)] [(.int c0), (.int (0 : Int32)), (.ref ca), (.ref ca), (.ref sa), (.ref sa)])) rfl rfl (hb hby d1_69)
        have O := O.wr W33 ge_ca
        have E_sa := E_sa.wr W33
        have F_value_sa := F_value_sa.other W33 (Or.inl ne_sa_ca)
        have F_coder_sa := F_coder_sa.other W33 (Or.inl ne_sa_ca)
        have Z0''' := Nat.le_trans Z0'' (Keep.of_wr W33).1
        have Kp := Kp.wr W33 (Or.inr sz_ca)
        have hk0 := Nat.le_trans hk0 (Keep.of_wr W33).1
        have N0' := Fr.snoc X33 N0 ge_ca
        have V_ca := V33
        refine own_stW (T' := T33) (g' := (mkF m 70 #[.val (.int z), .val (.int c0), .val (.int c1), .val (.int c2)] [(.ref ca), (.ref sa), (.ref sa)])) st33 ?_
        refine own_stW (T' := T33) (g' := (mkF m 71 #[.val (.int z), .val (.int c0), .val (.int c1), .val (.int c2)] [(.ref ca), (.ref ca), (.ref sa), (.ref sa)])) (fun _ k => XS.dup X33.here hx rfl (hb hby d1_70) rfl rfl k) ?_
        refine own_stW (T' := T33) (g' := (mkF m 72 #[.val (.int z), .val (.int c0), .val (.int c1), .val (.int c2)] [(.int (1 : Int32)), (.ref ca), (.ref ca), (.ref sa), (.ref sa)])) (fun _ k => XS.iconst X33.here hx rfl (hb hby d1_71) k) ?_
        refine own_stW (T' := T33) (g' := (mkF m 73 #[.val (.int z), .val (.int c0), .val (.int c1), .val (.int c2)] [(.int c1), (.int (1 : Int32)), (.ref ca), (.ref ca), (.ref sa), (.ref sa)])) (fun _ k => XS.iloadN X33.here hx rfl (hb hby d1_72) rfl k) ?_
        obtain ⟨T34, h34, X34, e34, W34, V34, st34⟩ := own_stC X33 hx hZ e33 V_ca (i := 1) (by decide) (by decide) (g := (mkF m 73 #[.val (.int z), .val (.int c0), .val (.int c1), .val (.int c2)] [(.int c1), (.int (1 : Int32)), (.ref ca), (.ref ca), (.ref sa), (.ref sa)])) rfl rfl (hb hby d1_73)
        have O := O.wr W34 ge_ca
        have E_sa := E_sa.wr W34
        have F_value_sa := F_value_sa.other W34 (Or.inl ne_sa_ca)
        have F_coder_sa := F_coder_sa.other W34 (Or.inl ne_sa_ca)
        have Z0'''' := Nat.le_trans Z0''' (Keep.of_wr W34).1
        have Kp := Kp.wr W34 (Or.inr sz_ca)
        have hk0 := Nat.le_trans hk0 (Keep.of_wr W34).1
        have N0'' := Fr.snoc X34 N0' ge_ca
        have V_ca := V34
        refine own_stW (T' := T34) (g' := (mkF m 74 #[.val (.int z), .val (.int c0), .val (.int c1), .val (.int c2)] [(.ref ca), (.ref sa), (.ref sa)])) st34 ?_
        refine own_stW (T' := T34) (g' := (mkF m 75 #[.val (.int z), .val (.int c0), .val (.int c1), .val (.int c2)] [(.ref ca), (.ref ca), (.ref sa), (.ref sa)])) (fun _ k => XS.dup X34.here hx rfl (hb hby d1_74) rfl rfl k) ?_
        refine own_stW (T' := T34) (g' := (mkF m 76 #[.val (.int z), .val (.int c0), .val (.int c1), .val (.int c2)] [(.int (2 : Int32)), (.ref ca), (.ref ca), (.ref sa), (.ref sa)])) (fun _ k => XS.iconst X34.here hx rfl (hb hby d1_75) k) ?_
        refine own_stW (T' := T34) (g' := (mkF m 77 #[.val (.int z), .val (.int c0), .val (.int c1), .val (.int c2)] [(.int c2), (.int (2 : Int32)), (.ref ca), (.ref ca), (.ref sa), (.ref sa)])) (fun _ k => XS.iloadN X34.here hx rfl (hb hby d1_76) rfl k) ?_
        obtain ⟨T35, h35, X35, e35, W35, V35, st35⟩ := own_stC X34 hx hZ e34 V_ca (i := 2) (by decide) (by decide) (g := (mkF m 77 #[.val (.int z), .val (.int c0), .val (.int c1), .val (.int c2)] [(.int c2), (.int (2 : Int32)), (.ref ca), (.ref ca), (.ref sa), (.ref sa)])) rfl rfl (hb hby d1_77)
        have O := O.wr W35 ge_ca
        have E_sa := E_sa.wr W35
        have F_value_sa := F_value_sa.other W35 (Or.inl ne_sa_ca)
        have F_coder_sa := F_coder_sa.other W35 (Or.inl ne_sa_ca)
        have Z0''''' := Nat.le_trans Z0'''' (Keep.of_wr W35).1
        have Kp := Kp.wr W35 (Or.inr sz_ca)
        have hk0 := Nat.le_trans hk0 (Keep.of_wr W35).1
        have N0''' := Fr.snoc X35 N0'' ge_ca
        have V_ca := V35
        refine own_stW (T' := T35) (g' := (mkF m 78 #[.val (.int z), .val (.int c0), .val (.int c1), .val (.int c2)] [(.ref ca), (.ref sa), (.ref sa)])) st35 ?_
        have K_sa : Arv Z h35 ca k32 .char (3 : Int32) (([c0, c1, c2] : List Int32).map Value.int) (.int 0) := V_ca.arv rfl (by decide) rfl (fun i hi => by rcases (by omega : i = 0 ∨ i = 1 ∨ i = 2) with rfl | rfl | rfl <;> first | exact congrArg Value.int h0c.2 | exact congrArg Value.int h1c.2 | exact congrArg Value.int h2c.2) (own_hp3 h0c h1c h2c)
        obtain ⟨vq36, _, ⟨T36, L36, k36, n36⟩, -, X36, ⟨Lc36, hQ36, l36, y36, z36⟩, st36⟩ := X35.specialBack hx (y := (⟨"java/lang/String", "<init>", "([C)V"⟩ : MethodName)) rfl hown (mvT hZ (hw _ (List.mem_of_getElem? (i := 8) rfl))) (mvT hZ (hw _ (List.mem_of_getElem? (i := 9) rfl))) (mvT hZ (hw _ (List.mem_of_getElem? (i := 10) rfl))) (by decide) (StrChars.Road.backV (W := 1) hZ hws (kI := 4) (hw _ (List.mem_of_getElem? (i := 5) rfl)) (cs := ([c0, c1, c2] : List Int32)) (bs := ([c0, c1, c2] : List Int32).map (fun c => c.toInt8.toInt32)) (n := 3) ge_sa Z0''''' E_sa F_value_sa F_coder_sa K_sa (SC0.ext O.2) hcs rfl rfl (by decide) (by decide) (own_hp3 h0c h1c h2c) rfl (by decide) (by decide)) (g := (mkF m 78 #[.val (.int z), .val (.int c0), .val (.int c1), .val (.int c2)] [(.ref ca), (.ref sa), (.ref sa)])) rfl (by rw [hml]; rfl) (Steps.refl _) (a := sa) (argsL := [(.ref ca)]) (rest := [(.ref sa)]) (lenOf own_pd4 rfl) rfl (by show 2 * 0 + _ ≤ _; exact Nat.le_of_eq rfl) (hb hby d1_78) (fun _ _ => ⟨rfl, e35, (by decide : ((0 + 1) + 1) + 1 ≤ _), (by decide : ((0 + 4) + 3) + 3 ≤ _)⟩)
        dsimp only [Pt.U, Pt.locs, Pt.cells, Pt.slots] at X36 l36 y36 z36 st36 hQ36
        subst l36 y36 z36
        obtain ⟨rfl, N36q, K36, -, -, -⟩ := hQ36
        have N0'''' := Fr.app N0''' N36q
        have O := O.keep K36 ((allS ge_sa all0))
        have E_sa := E_sa.keep K36
        have V_ca := V_ca.keep K36 (ninS (Ne.symm ne_sa_ca) nin0)
        have Z0'''''' := Nat.le_trans Z0''''' K36.1
        have hk0 := Nat.le_trans hk0 K36.1
        have Kp := Kp.trans K36 (allS (P := fun x => x ∈ [] ∨ h0.size ≤ x) (Or.inr sz_sa) all0)
        refine own_trW (T' := T36) (g' := (mkF m 81 #[.val (.int z), .val (.int c0), .val (.int c1), .val (.int c2)] [(.ref sa)])) st36 ?_
        exact own_retRW X36 hS hx Bd.returns Bd.notSynchronized rfl hk0 rfl rfl (hb hby d1_81) ⟨sa, rfl, N0'''', Kp⟩ (by decide) (by decide)
theorem d6_0 : decode jdk_30_method_1_code 0 = .ok (.aload_n 0, 1) := by decide +kernel
theorem d6_1 : decode jdk_30_method_1_code 1 = .ok (.invokespecial 1, 3) := by decide +kernel
theorem d6_4 : decode jdk_30_method_1_code 4 = .ok (.return_, 1) := by decide +kernel
theorem own_pn3 : plainName "java/lang/Record" = true := by first | (simp [plainName, overriddenIn]; done) | decide +kernel
def own_rec_Q (Z : State) (a : Addr) (h0 : Heap) (n0 : Nat) (v : Option Value) (h : Heap) (L : List Loc) : Prop := v = none ∧ Fr n0 L ∧ h = h0
set_option maxRecDepth 65536 in
set_option maxHeartbeats 40000000 in
theorem own_rec (l : Launch) (Z : State) (a0 : Array Value) (hw : ∀ d ∈ tables_1, d.before a0 Z = true) (ws : List Jvm.Cond) (a : Addr) (h0 : Heap) (n0 : Nat) (Z0 : n0 ≤ h0.size) :
    MetFree l (⟨"java/lang/Record", "<init>", "()V"⟩ : MethodName) (head1 (Jvm.Cond.code (⟨"java/lang/Record", "<init>", "()V"⟩ : MethodName) jdk_30_method_1_code 1 none :: ws) ({ frames := 1, cells := 0, slots := 0, locals := 12 } : Room)) (fun aa U0 => aa = #[(.ref a)] ∧ Z.Warmed39 U0.vm ∧ U0.heap = h0) (fun _ _ _ _ _ => True) (fun _ U0 o0 U1 => ∃ v0 L0, o0 = .returned v0 ∧ own_rec_Q Z a h0 n0 v0 U1.heap L0 ∧ FrameEnd U0 o0 U1 L0 ({ frames := 1, cells := 0, slots := 0, locals := 12 } : Room).cells ({ frames := 1, cells := 0, slots := 0, locals := 12 } : Room).slots) := by
  refine MetFree.of_bodySF (plainFor_of_name own_pn3) hisR ?_
  intro p e s m args below meth c s₁ Bd hml0 hP hK
  obtain ⟨rfl, hZ, hh⟩ := hP
  have hx := Bd.exec
  have hby := Bd.bytes
  have hml : c.maxLocals = 1 := hml0
  have hown : s.vm.findClass "java/lang/Record" = some m.cls := findClass_of_methodNamed Bd.named
  have hnm := (name_of_methodNamed Bd.named Bd.method).1
  have X0 : Stand p l e ({ frames := 1, cells := 0, slots := 0, locals := 12 } : Room) s m #[(.ref a)] below meth c s₁ [] 0 0 := Stand.of_body Bd
  have e0 : s₁.heap = h0 := by rw [← hh, Bd.state]; rfl
  have N0 := Fr.nil n0
  show own_Go p e below s (own_rec_Q Z a h0 n0) 0 0 s₁ (entryFrame m #[(.ref a)] 1)
  rw [show entryFrame m #[(.ref a)] 1 = mkF m 0 #[.val (.ref a)] [] from by first | (simp [entryFrame, mkF, argsToLocals, Value.category]; done) | rfl]
  refine own_st (T' := s₁) (g' := (mkF m 1 #[.val (.ref a)] [(.ref a)])) (fun _ k => XS.aloadN X0.here hx rfl (hb hby d6_0) rfl rfl k) ?_
  obtain ⟨T37, X37, e37, st37⟩ := initO X0 hx hZ hown (hw _ (List.mem_of_getElem? (i := 37) rfl)) (hw _ (List.mem_of_getElem? (i := 16) rfl)) (hw _ (List.mem_of_getElem? (i := 17) rfl)) e0 (g := (mkF m 1 #[.val (.ref a)] [(.ref a)])) rfl (by rw [hml]; rfl) rfl (hb hby d6_1) (by decide) (W := 0) (by show 2 * 0 + _ ≤ _; exact Nat.le_of_eq rfl) (by decide)
  refine own_st (T' := T37) (g' := (mkF m 4 #[.val (.ref a)] [])) st37 ?_
  exact own_ret0 X37 hx Bd.returns Bd.notSynchronized e37 (hb hby d6_4) ⟨rfl, N0, rfl⟩ (by decide) (by decide)
theorem own_pd5 : parseMethodDescriptor "()V" = some ⟨[], none⟩ := by decide +kernel
theorem d5_0 : decode prog_118_method_1_code 0 = .ok (.aload_n 0, 1) := by decide +kernel
theorem d5_1 : decode prog_118_method_1_code 1 = .ok (.invokespecial 1, 3) := by decide +kernel
theorem d5_4 : decode prog_118_method_1_code 4 = .ok (.aload_n 0, 1) := by decide +kernel
theorem d5_5 : decode prog_118_method_1_code 5 = .ok (.aload_n 1, 1) := by decide +kernel
theorem d5_6 : decode prog_118_method_1_code 6 = .ok (.putfield 7, 3) := by decide +kernel
theorem d5_9 : decode prog_118_method_1_code 9 = .ok (.return_, 1) := by decide +kernel
theorem own_pn4 : plainName "com/example/idiolect/idiolect/internal/mf2/Variant$Key" = true := by first | (simp [plainName, overriddenIn]; done) | decide +kernel
def own_key_Q (Z : State) (a : Addr) (r : Value) (h0 : Heap) (n0 : Nat) (v : Option Value) (h : Heap) (L : List Loc) : Prop := v = none ∧ Fr n0 L ∧ Keep h0 h [a] ∧ Fld Z h a "com/example/idiolect/idiolect/internal/mf2/Variant$Key" "value" "Ljava/lang/String;" r
set_option maxRecDepth 65536 in
set_option maxHeartbeats 40000000 in
theorem own_key (l : Launch) (Z : State) (a0 : Array Value) (hw : ∀ d ∈ tables_1, d.before a0 Z = true) (ws : List Jvm.Cond) (a : Addr) (r : Value) (h0 : Heap) (n0 : Nat) (Z0 : n0 ≤ h0.size) (hr : r.isRef = true) (Fv : Fld Z h0 a "com/example/idiolect/idiolect/internal/mf2/Variant$Key" "value" "Ljava/lang/String;" .null) (Ea : Exa Z h0 a "com/example/idiolect/idiolect/internal/mf2/Variant$Key") (ga : n0 ≤ a) :
    MetFree l (⟨"com/example/idiolect/idiolect/internal/mf2/Variant$Key", "<init>", "(Ljava/lang/String;)V"⟩ : MethodName) (head1 (Jvm.Cond.code (⟨"com/example/idiolect/idiolect/internal/mf2/Variant$Key", "<init>", "(Ljava/lang/String;)V"⟩ : MethodName) prog_118_method_1_code 2 none :: ws) ({ frames := 2, cells := 0, slots := 0, locals := 24 } : Room)) (fun aa U0 => aa = #[(.ref a), r] ∧ Z.Warmed39 U0.vm ∧ U0.heap = h0) (fun _ _ _ _ _ => True) (fun _ U0 o0 U1 => ∃ v0 L0, o0 = .returned v0 ∧ own_key_Q Z a r h0 n0 v0 U1.heap L0 ∧ FrameEnd U0 o0 U1 L0 ({ frames := 2, cells := 0, slots := 0, locals := 24 } : Room).cells ({ frames := 2, cells := 0, slots := 0, locals := 24 } : Room).slots) := by
  refine MetFree.of_bodySF (plainFor_of_name own_pn4) hisR ?_
  intro p e s m args below meth c s₁ Bd hml0 hP hK
  obtain ⟨rfl, hZ, hh⟩ := hP
  have hx := Bd.exec
  have hby := Bd.bytes
  have hml : c.maxLocals = 2 := hml0
  have hown : s.vm.findClass "com/example/idiolect/idiolect/internal/mf2/Variant$Key" = some m.cls := findClass_of_methodNamed Bd.named
  have hnm := (name_of_methodNamed Bd.named Bd.method).1
  have X0 : Stand p l e ({ frames := 2, cells := 0, slots := 0, locals := 24 } : Room) s m #[(.ref a), r] below meth c s₁ [] 0 0 := Stand.of_body Bd
  have e0 : s₁.heap = h0 := by rw [← hh, Bd.state]; rfl
  have N0 := Fr.nil n0
  show own_Go p e below s (own_key_Q Z a r h0 n0) 0 0 s₁ (entryFrame m #[(.ref a), r] 2)
  rw [show entryFrame m #[(.ref a), r] 2 = mkF m 0 #[.val (.ref a), .val r] [] from by (rcases ref_cases hr with rfl | ⟨_, rfl⟩) <;> first | (simp [entryFrame, mkF, argsToLocals, Value.category]; done) | rfl]
  have Kp := Keep.refl h0 [a]
  refine own_st (T' := s₁) (g' := (mkF m 1 #[.val (.ref a), .val r] [(.ref a)])) (fun _ k => XS.aloadN X0.here hx rfl (hb hby d5_0) rfl rfl k) ?_
  obtain ⟨vq38, _, ⟨T38, L38, k38, n38⟩, -, X38, ⟨Lc38, hQ38, l38, y38, z38⟩, st38⟩ := X0.specialBack hx (y := (⟨"java/lang/Record", "<init>", "()V"⟩ : MethodName)) rfl hown (mvT hZ (hw _ (List.mem_of_getElem? (i := 32) rfl))) (mvT hZ (hw _ (List.mem_of_getElem? (i := 33) rfl))) (mvT hZ (hw _ (List.mem_of_getElem? (i := 36) rfl))) (by decide) (backOf (W := 0) (own_rec l Z a0 hw [] a h0 n0 Z0 ) hZ (hw _ (List.mem_of_getElem? (i := 36) rfl)) (hw _ (List.mem_of_getElem? (i := 35) rfl)) (by decide) (by decide)) (g := (mkF m 1 #[.val (.ref a), .val r] [(.ref a)])) rfl (by rw [hml]; rfl) (Steps.refl _) (a := a) (argsL := []) (rest := []) (lenOf own_pd5 rfl) rfl (by show 2 * 0 + _ ≤ _; exact Nat.le_of_eq rfl) (hb hby d5_1) (fun _ _ => ⟨rfl, e0, (by decide : 0 + 0 ≤ _), (by decide : 0 + 0 ≤ _)⟩)
  dsimp only [Pt.U, Pt.locs, Pt.cells, Pt.slots] at X38 l38 y38 z38 st38 hQ38
  subst l38 y38 z38
  obtain ⟨rfl, N38q, e38⟩ := hQ38
  have N0' := Fr.app N0 N38q
  refine own_tr (T' := T38) (g' := (mkF m 4 #[.val (.ref a), .val r] [])) st38 ?_
  refine own_st (T' := T38) (g' := (mkF m 5 #[.val (.ref a), .val r] [(.ref a)])) (fun _ k => XS.aloadN X38.here hx rfl (hb hby d5_4) rfl rfl k) ?_
  refine own_st (T' := T38) (g' := (mkF m 6 #[.val (.ref a), .val r] [r, (.ref a)])) (fun _ k => XS.aloadN X38.here hx rfl (hb hby d5_5) rfl hr k) ?_
  obtain ⟨T39, h39, X39, e39, W39, st39⟩ := putF X38 hx hZ hown (host := "") (Or.inl (hw _ (List.mem_of_getElem? (i := 38) rfl))) Via.refl e38 Fv Ea (Or.inr ⟨(hw _ (List.mem_of_getElem? (i := 39) rfl)), rfl, hnm⟩) (hw _ (List.mem_of_getElem? (i := 27) rfl)) (ty := (.object "java/lang/String")) (by decide) (own_nref rfl hr) (own_fref rfl hr) (g := (mkF m 6 #[.val (.ref a), .val r] [r, (.ref a)])) rfl rfl (hb hby d5_6)
  have Ea := Ea.wr W39
  have Z0' := Nat.le_trans Z0 (Keep.of_wr W39).1
  have Kp := Kp.wr W39 (Or.inl (List.mem_of_getElem? (i := 0) rfl))
  have N0'' := Fr.snoc X39 N0' ga
  have Fv := Fv.same W39
  refine own_st (T' := T39) (g' := (mkF m 9 #[.val (.ref a), .val r] [])) st39 ?_
  exact own_ret0 X39 hx Bd.returns Bd.notSynchronized e39 (hb hby d5_9) ⟨rfl, N0'', Kp, Fv⟩ (by decide) (by decide)
theorem d7_0 : decode prog_118_method_2_code 0 = .ok (.aload_n 0, 1) := by decide +kernel
theorem d7_1 : decode prog_118_method_2_code 1 = .ok (.getfield 7, 3) := by decide +kernel
theorem d7_4 : decode prog_118_method_2_code 4 = .ok (.ifnonnull 7, 3) := by decide +kernel
theorem d7_7 : decode prog_118_method_2_code 7 = .ok (.iconst 1, 1) := by decide +kernel
theorem d7_8 : decode prog_118_method_2_code 8 = .ok (.goto 4, 3) := by decide +kernel
theorem d7_11 : decode prog_118_method_2_code 11 = .ok (.iconst 0, 1) := by decide +kernel
theorem d7_12 : decode prog_118_method_2_code 12 = .ok (.ireturn, 1) := by decide +kernel
def own_catch_Q (Z : State) (a : Addr) (r : Value) (h0 : Heap) (n0 : Nat) (v : Option Value) (h : Heap) (L : List Loc) : Prop := v = some (.int (if r = .null then 1 else 0)) ∧ Fr n0 L ∧ h = h0
set_option maxRecDepth 65536 in
set_option maxHeartbeats 40000000 in
theorem own_catch (l : Launch) (Z : State) (a0 : Array Value) (hw : ∀ d ∈ tables_1, d.before a0 Z = true) (ws : List Jvm.Cond) (a : Addr) (r : Value) (h0 : Heap) (n0 : Nat) (Z0 : n0 ≤ h0.size) (hr : r.isRef = true) (Fv : Fld Z h0 a "com/example/idiolect/idiolect/internal/mf2/Variant$Key" "value" "Ljava/lang/String;" r) :
    MetFree l (⟨"com/example/idiolect/idiolect/internal/mf2/Variant$Key", "isCatchAll", "()Z"⟩ : MethodName) (head1 (Jvm.Cond.code (⟨"com/example/idiolect/idiolect/internal/mf2/Variant$Key", "isCatchAll", "()Z"⟩ : MethodName) prog_118_method_2_code 1 (some .boolean) :: ws) ({ frames := 0, cells := 0, slots := 0, locals := 0 } : Room)) (fun aa U0 => aa = #[(.ref a)] ∧ Z.Warmed39 U0.vm ∧ U0.heap = h0) (fun _ _ _ _ _ => True) (fun _ U0 o0 U1 => ∃ v0 L0, o0 = .returned v0 ∧ own_catch_Q Z a r h0 n0 v0 U1.heap L0 ∧ FrameEnd U0 o0 U1 L0 ({ frames := 0, cells := 0, slots := 0, locals := 0 } : Room).cells ({ frames := 0, cells := 0, slots := 0, locals := 0 } : Room).slots) := by
  refine MetFree.of_bodySF (plainFor_of_name own_pn4) hisR ?_
  intro p e s m args below meth c s₁ Bd hml0 hP hK
  obtain ⟨rfl, hZ, hh⟩ := hP
  have hx := Bd.exec
  have hby := Bd.bytes
  have hml : c.maxLocals = 1 := hml0
  have hown : s.vm.findClass "com/example/idiolect/idiolect/internal/mf2/Variant$Key" = some m.cls := findClass_of_methodNamed Bd.named
  have hnm := (name_of_methodNamed Bd.named Bd.method).1
  have X0 : Stand p l e ({ frames := 0, cells := 0, slots := 0, locals := 0 } : Room) s m #[(.ref a)] below meth c s₁ [] 0 0 := Stand.of_body Bd
  have e0 : s₁.heap = h0 := by rw [← hh, Bd.state]; rfl
  have N0 := Fr.nil n0
  show own_Go p e below s (own_catch_Q Z a r h0 n0) 0 0 s₁ (entryFrame m #[(.ref a)] 1)
  rw [show entryFrame m #[(.ref a)] 1 = mkF m 0 #[.val (.ref a)] [] from by first | (simp [entryFrame, mkF, argsToLocals, Value.category]; done) | rfl]
  refine own_st (T' := s₁) (g' := (mkF m 1 #[.val (.ref a)] [(.ref a)])) (fun _ k => XS.aloadN X0.here hx rfl (hb hby d7_0) rfl rfl k) ?_
  obtain ⟨T40, X40, e40, st40⟩ := getF X0 hx hZ hown (host := "") (Or.inl (hw _ (List.mem_of_getElem? (i := 38) rfl))) Via.refl e0 Fv (g := (mkF m 1 #[.val (.ref a)] [(.ref a)])) rfl rfl (hb hby d7_1)
  refine own_st (T' := T40) (g' := (mkF m 4 #[.val (.ref a)] [r])) st40 ?_
  by_cases q1 : (r : Value) = .null
  · refine own_st (T' := T40) (g' := (mkF m 7 #[.val (.ref a)] [])) (fun _ k => Jvm.Free.XT.nonnullNo X40.here hx rfl (hb hby d7_4) rfl q1 k) ?_
    refine own_st (T' := T40) (g' := (mkF m 8 #[.val (.ref a)] [(.int (1 : Int32))])) (fun _ k => XS.iconst X40.here hx rfl (hb hby d7_7) k) ?_
    refine own_st (T' := T40) (g' := (mkF m 12 #[.val (.ref a)] [(.int (1 : Int32))])) (fun _ k => XS.goto X40.here hx rfl (pc0 := 8) (pc' := 12) rfl (hb hby d7_8) (by decide) (by decide) k) ?_
    exact own_retN X40 hx Bd.returns Bd.notSynchronized e40 (by simp) (hb hby d7_12) ⟨by simp [q1, nar], N0, rfl⟩ (by decide) (by decide)
  · refine own_st (T' := T40) (g' := (mkF m 11 #[.val (.ref a)] [])) (fun _ k => Jvm.Free.XT.nonnullYes X40.here hx rfl (pc0 := 4) (pc' := 11) rfl (hb hby d7_4) rfl hr q1 (by decide) (by decide) k) ?_
    refine own_st (T' := T40) (g' := (mkF m 12 #[.val (.ref a)] [(.int (0 : Int32))])) (fun _ k => XS.iconst X40.here hx rfl (hb hby d7_11) k) ?_
    exact own_retN X40 hx Bd.returns Bd.notSynchronized e40 (by simp) (hb hby d7_12) ⟨by simp [q1, nar], N0, rfl⟩ (by decide) (by decide)
theorem own_pd6 : parseMethodDescriptor "(ICCC)Ljava/lang/String;" = some ⟨[.int, .char, .char, .char], some (.object "java/lang/String")⟩ := by decide +kernel
theorem own_pd7 : parseMethodDescriptor "(Ljava/lang/String;)V" = some ⟨[(.object "java/lang/String")], none⟩ := by decide +kernel
theorem own_pd8 : parseMethodDescriptor "()Z" = some ⟨[], some .boolean⟩ := by decide +kernel
theorem own_pd9 : parseMethodDescriptor "(C)Ljava/lang/String;" = some ⟨[.char], some (.object "java/lang/String")⟩ := by decide +kernel
def own_law_Q (Z : State) (g0 : Int32) (g1 : Int32) (g2 : Int32) (g3 : Int32) (g4 : Int32) (aK : Addr) (cc : Int32) (h0 : Heap) (n0 : Nat) (v : Option Value) (h : Heap) (L : List Loc) : Prop := v = some (.int 1) ∧ Fr n0 L
set_option maxRecDepth 65536 in
set_option maxHeartbeats 40000000 in
theorem own_law (l : Launch) (Z : State) (a0 : Array Value) (hw : ∀ d ∈ tables_1, d.before a0 Z = true) (ws : List Jvm.Cond) (g0 : Int32) (g1 : Int32) (g2 : Int32) (g3 : Int32) (g4 : Int32) (aK : Addr) (cc : Int32) (h0 : Heap) (n0 : Nat) (Z0 : n0 ≤ h0.size) (O : Old Z n0 h0) (SC0 : Sta Z Z.heap "java/lang/String" "COMPACT_STRINGS" "Z" (.int cc)) (hcs : ¬ cc = (0 : Int32)) (SK0 : Sta Z Z.heap "com/example/idiolect/idiolect/internal/mf2/Variant$Key" "CATCH_ALL" "Lcom/example/idiolect/idiolect/internal/mf2/Variant$Key;" (.ref aK)) (EK0 : Exa Z Z.heap aK "com/example/idiolect/idiolect/internal/mf2/Variant$Key") (FK0 : Fld Z Z.heap aK "com/example/idiolect/idiolect/internal/mf2/Variant$Key" "value" "Ljava/lang/String;" .null) :
    MetFree l x (head1 (Jvm.Cond.code x code maxLocals ret :: ws) room_1) (fun aa U0 => aa = #[(.int g0), (.int g1), (.int g2), (.int g3), (.int g4)] ∧ Z.Warmed39 U0.vm ∧ U0.heap = h0 ∧ CHv Z consts_1 U0.vm h0) (fun _ _ _ _ _ => True) (fun _ U0 o0 U1 => ∃ v0 L0, o0 = .returned v0 ∧ own_law_Q Z g0 g1 g2 g3 g4 aK cc h0 n0 v0 U1.heap L0 ∧ ReturnedEndW U0 o0 U1 L0 24 1152) := by
  refine MetFree.of_bodySF (plainFor_of_name own_pn2) hisR ?_
  intro p e s m args below meth c s₁ Bd hml0 hP hK
  obtain ⟨rfl, hZ, hh, hH⟩ := hP
  have hx := Bd.exec
  have hby := Bd.bytes
  have hml : c.maxLocals = 10 := hml0
  have hown : s.vm.findClass "com/example/idiolect/idiolect/internal/mf2/KeyIsCatchAllPinLaw" = some m.cls := findClass_of_methodNamed Bd.named
  have hnm := (name_of_methodNamed Bd.named Bd.method).1
  have X0 : Stand p l e room_1 s m #[(.int g0), (.int g1), (.int g2), (.int g3), (.int g4)] below meth c s₁ [] 0 0 := Stand.of_body Bd
  have e0 : s₁.heap = h0 := by rw [← hh, Bd.state]; rfl
  have N0 := Fr.nil n0
  have X0 : Stand p l e room_1 (s.setVm s.vm) m #[(.int g0), (.int g1), (.int g2), (.int g3), (.int g4)] below meth c s₁ [] 0 0 := X0
  have hS := (State.WarmedH.refl s).since 0
  have hk0 : 0 ≤ h0.size := Nat.zero_le _
  have wS : ∀ d ∈ Bundle.stringAtoms, d.before a0 Z = true := fun d hd => hw d ((by decide +kernel : ∀ d ∈ Bundle.stringAtoms, d ∈ tables_1) d hd)
  have hEL : EW Z a0 consts_1 := EW.cons (hw _ (List.mem_of_getElem? (i := 18) rfl)) (by decide) (EW.nil)
  show own_GoW p e below s (own_law_Q Z g0 g1 g2 g3 g4 aK cc h0 n0) 24 1152 s₁ (entryFrame m #[(.int g0), (.int g1), (.int g2), (.int g3), (.int g4)] maxLocals)
  rw [show entryFrame m #[(.int g0), (.int g1), (.int g2), (.int g3), (.int g4)] maxLocals = mkF m 0 #[.val (.int g0), .val (.int g1), .val (.int g2), .val (.int g3), .val (.int g4), .unset, .unset, .unset, .unset, .unset] [] from by first | (simp [entryFrame, mkF, argsToLocals, Value.category, maxLocals]; done) | rfl]
  refine own_stW (T' := s₁) (g' := (mkF m 1 #[.val (.int g0), .val (.int g1), .val (.int g2), .val (.int g3), .val (.int g4), .unset, .unset, .unset, .unset, .unset] [(.int g0)])) (fun _ k => XS.iloadN X0.here hx rfl (hb hby at_0) rfl k) ?_
  refine own_stW (T' := s₁) (g' := (mkF m 2 #[.val (.int g0), .val (.int g1), .val (.int g2), .val (.int g3), .val (.int g4), .unset, .unset, .unset, .unset, .unset] [(.int (1 : Int32)), (.int g0)])) (fun _ k => XS.iconst X0.here hx rfl (hb hby at_1) k) ?_
  refine own_stW (T' := s₁) (g' := (mkF m 3 #[.val (.int g0), .val (.int g1), .val (.int g2), .val (.int g3), .val (.int g4), .unset, .unset, .unset, .unset, .unset] [(.int (g0 &&& (1 : Int32)))])) (fun _ k => XS.iand X0.here hx rfl (hb hby at_2) rfl k) ?_
  have J26 : ∀ (z5 : Int32) (z6 : Int32), own_GoW p e below s (own_law_Q Z g0 g1 g2 g3 g4 aK cc h0 n0) 24 1152 s₁ (mkF m 26 #[.val (.int g0), .val (.int g1), .val (.int g2), .val (.int g3), .val (.int g4), .val (.int z5), .val (.int z6), .unset, .unset, .unset] []) := by
    intro z5 z6
    refine own_stW (T' := s₁) (g' := (mkF m 28 #[.val (.int g0), .val (.int g1), .val (.int g2), .val (.int g3), .val (.int g4), .val (.int z5), .val (.int z6), .unset, .unset, .unset] [(.int z5)])) (fun _ k => XS.iload X0.here hx rfl (hb hby at_26) rfl k) ?_
    by_cases qn : z5 = (0 : Int32)
    · refine own_stW (T' := s₁) (g' := (mkF m 37 #[.val (.int g0), .val (.int g1), .val (.int g2), .val (.int g3), .val (.int g4), .val (.int z5), .val (.int z6), .unset, .unset, .unset] [])) (fun _ k => XS.ifYes X0.here hx rfl (pc0 := 28) (pc' := 37) rfl (hb hby at_28) rfl (Jvm.Free.XT.i0_eq_t qn) (by decide) (by decide) k) ?_
      refine own_stW (T' := s₁) (g' := (mkF m 39 #[.val (.int g0), .val (.int g1), .val (.int g2), .val (.int g3), .val (.int g4), .val (.int z5), .val (.int z6), .unset, .unset, .unset] [(.int z6)])) (fun _ k => XS.iload X0.here hx rfl (hb hby at_37) rfl k) ?_
      by_cases qs : z6 = (0 : Int32)
      · refine own_stW (T' := s₁) (g' := (mkF m 52 #[.val (.int g0), .val (.int g1), .val (.int g2), .val (.int g3), .val (.int g4), .val (.int z5), .val (.int z6), .unset, .unset, .unset] [])) (fun _ k => XS.ifYes X0.here hx rfl (pc0 := 39) (pc' := 52) rfl (hb hby at_39) rfl (Jvm.Free.XT.i0_eq_t qs) (by decide) (by decide) k) ?_
        refine own_stW (T' := s₁) (g' := (mkF m 54 #[.val (.int g0), .val (.int g1), .val (.int g2), .val (.int g3), .val (.int g4), .val (.int z5), .val (.int z6), .unset, .unset, .unset] [(.int g4)])) (fun _ k => XS.iload X0.here hx rfl (hb hby at_52) rfl k) ?_
        refine own_stW (T' := s₁) (g' := (mkF m 55 #[.val (.int g0), .val (.int g1), .val (.int g2), .val (.int g3), .val (.int g4), .val (.int z5), .val (.int z6), .unset, .unset, .unset] [(.int (3 : Int32)), (.int g4)])) (fun _ k => XS.iconst X0.here hx rfl (hb hby at_54) k) ?_
        refine own_stW (T' := s₁) (g' := (mkF m 56 #[.val (.int g0), .val (.int g1), .val (.int g2), .val (.int g3), .val (.int g4), .val (.int z5), .val (.int z6), .unset, .unset, .unset] [(.int (g4 &&& (3 : Int32)))])) (fun _ k => XS.iand X0.here hx rfl (hb hby at_55) rfl k) ?_
        refine own_stW (T' := s₁) (g' := (mkF m 57 #[.val (.int g0), .val (.int g1), .val (.int g2), .val (.int g3), .val (.int g4), .val (.int z5), .val (.int z6), .unset, .unset, .unset] [(.int g1), (.int (g4 &&& (3 : Int32)))])) (fun _ k => XS.iloadN X0.here hx rfl (hb hby at_56) rfl k) ?_
        refine own_stW (T' := s₁) (g' := (mkF m 60 #[.val (.int g0), .val (.int g1), .val (.int g2), .val (.int g3), .val (.int g4), .val (.int z5), .val (.int z6), .unset, .unset, .unset] [(.int (255 : Int32)), (.int g1), (.int (g4 &&& (3 : Int32)))])) (fun _ k => XS.sipush X0.here hx rfl (hb hby at_57) k) ?_
        refine own_stW (T' := s₁) (g' := (mkF m 61 #[.val (.int g0), .val (.int g1), .val (.int g2), .val (.int g3), .val (.int g4), .val (.int z5), .val (.int z6), .unset, .unset, .unset] [(.int (g1 &&& (255 : Int32))), (.int (g4 &&& (3 : Int32)))])) (fun _ k => XS.iand X0.here hx rfl (hb hby at_60) rfl k) ?_
        refine own_stW (T' := s₁) (g' := (mkF m 62 #[.val (.int g0), .val (.int g1), .val (.int g2), .val (.int g3), .val (.int g4), .val (.int z5), .val (.int z6), .unset, .unset, .unset] [(.int ((g1 &&& (255 : Int32)).toUInt32.toUInt16.toUInt32.toInt32)), (.int (g4 &&& (3 : Int32)))])) (fun _ k => XS.i2c X0.here hx rfl (hb hby at_61) rfl k) ?_
        refine own_stW (T' := s₁) (g' := (mkF m 63 #[.val (.int g0), .val (.int g1), .val (.int g2), .val (.int g3), .val (.int g4), .val (.int z5), .val (.int z6), .unset, .unset, .unset] [(.int g2), (.int ((g1 &&& (255 : Int32)).toUInt32.toUInt16.toUInt32.toInt32)), (.int (g4 &&& (3 : Int32)))])) (fun _ k => XS.iloadN X0.here hx rfl (hb hby at_62) rfl k) ?_
        refine own_stW (T' := s₁) (g' := (mkF m 66 #[.val (.int g0), .val (.int g1), .val (.int g2), .val (.int g3), .val (.int g4), .val (.int z5), .val (.int z6), .unset, .unset, .unset] [(.int (255 : Int32)), (.int g2), (.int ((g1 &&& (255 : Int32)).toUInt32.toUInt16.toUInt32.toInt32)), (.int (g4 &&& (3 : Int32)))])) (fun _ k => XS.sipush X0.here hx rfl (hb hby at_63) k) ?_
        refine own_stW (T' := s₁) (g' := (mkF m 67 #[.val (.int g0), .val (.int g1), .val (.int g2), .val (.int g3), .val (.int g4), .val (.int z5), .val (.int z6), .unset, .unset, .unset] [(.int (g2 &&& (255 : Int32))), (.int ((g1 &&& (255 : Int32)).toUInt32.toUInt16.toUInt32.toInt32)), (.int (g4 &&& (3 : Int32)))])) (fun _ k => XS.iand X0.here hx rfl (hb hby at_66) rfl k) ?_
        refine own_stW (T' := s₁) (g' := (mkF m 68 #[.val (.int g0), .val (.int g1), .val (.int g2), .val (.int g3), .val (.int g4), .val (.int z5), .val (.int z6), .unset, .unset, .unset] [(.int ((g2 &&& (255 : Int32)).toUInt32.toUInt16.toUInt32.toInt32)), (.int ((g1 &&& (255 : Int32)).toUInt32.toUInt16.toUInt32.toInt32)), (.int (g4 &&& (3 : Int32)))])) (fun _ k => XS.i2c X0.here hx rfl (hb hby at_67) rfl k) ?_
        refine own_stW (T' := s₁) (g' := (mkF m 69 #[.val (.int g0), .val (.int g1), .val (.int g2), .val (.int g3), .val (.int g4), .val (.int z5), .val (.int z6), .unset, .unset, .unset] [(.int g3), (.int ((g2 &&& (255 : Int32)).toUInt32.toUInt16.toUInt32.toInt32)), (.int ((g1 &&& (255 : Int32)).toUInt32.toUInt16.toUInt32.toInt32)), (.int (g4 &&& (3 : Int32)))])) (fun _ k => XS.iloadN X0.here hx rfl (hb hby at_68) rfl k) ?_
        refine own_stW (T' := s₁) (g' := (mkF m 72 #[.val (.int g0), .val (.int g1), .val (.int g2), .val (.int g3), .val (.int g4), .val (.int z5), .val (.int z6), .unset, .unset, .unset] [(.int (255 : Int32)), (.int g3), (.int ((g2 &&& (255 : Int32)).toUInt32.toUInt16.toUInt32.toInt32)), (.int ((g1 &&& (255 : Int32)).toUInt32.toUInt16.toUInt32.toInt32)), (.int (g4 &&& (3 : Int32)))])) (fun _ k => XS.sipush X0.here hx rfl (hb hby at_69) k) ?_
        refine own_stW (T' := s₁) (g' := (mkF m 73 #[.val (.int g0), .val (.int g1), .val (.int g2), .val (.int g3), .val (.int g4), .val (.int z5), .val (.int z6), .unset, .unset, .unset] [(.int (g3 &&& (255 : Int32))), (.int ((g2 &&& (255 : Int32)).toUInt32.toUInt16.toUInt32.toInt32)), (.int ((g1 &&& (255 : Int32)).toUInt32.toUInt16.toUInt32.toInt32)), (.int (g4 &&& (3 : Int32)))])) (fun _ k => XS.iand X0.here hx rfl (hb hby at_72) rfl k) ?_
        refine own_stW (T' := s₁) (g' := (mkF m 74 #[.val (.int g0), .val (.int g1), .val (.int g2), .val (.int g3), .val (.int g4), .val (.int z5), .val (.int z6), .unset, .unset, .unset] [(.int ((g3 &&& (255 : Int32)).toUInt32.toUInt16.toUInt32.toInt32)), (.int ((g2 &&& (255 : Int32)).toUInt32.toUInt16.toUInt32.toInt32)), (.int ((g1 &&& (255 : Int32)).toUInt32.toUInt16.toUInt32.toInt32)), (.int (g4 &&& (3 : Int32)))])) (fun _ k => XS.i2c X0.here hx rfl (hb hby at_73) rfl k) ?_
        obtain ⟨vq41, _, ⟨T41, L41, k41, n41⟩, -, X41, hS41, hg41, ⟨Lc41, hQ41, l41, y41, z41⟩, st41⟩ := Jvm.RoadKit.callSS X0 hx (y := (⟨"com/example/idiolect/idiolect/internal/mf2/KeyIsCatchAllPinLaw", "draw", "(ICCC)Ljava/lang/String;"⟩ : MethodName)) hown (mvT hZ (hw _ (List.mem_of_getElem? (i := 0) rfl))) (mvT hZ (hw _ (List.mem_of_getElem? (i := 1) rfl))) (mvT hZ (hw _ (List.mem_of_getElem? (i := 2) rfl))) (mvT hZ (hw _ (List.mem_of_getElem? (i := 3) rfl))) (by decide) (own_backH (W := 0) (own_draw l Z a0 hw [] _ _ _ _ cc h0 n0 Z0 O SC0 hcs (own_ch8 _) (own_ch8 _) (own_ch8 _)) hZ (hw _ (List.mem_of_getElem? (i := 3) rfl)) (hw _ (List.mem_of_getElem? (i := 2) rfl)) (by decide) (by decide) hEL hH) (g := (mkF m 74 #[.val (.int g0), .val (.int g1), .val (.int g2), .val (.int g3), .val (.int g4), .val (.int z5), .val (.int z6), .unset, .unset, .unset] [(.int ((g3 &&& (255 : Int32)).toUInt32.toUInt16.toUInt32.toInt32)), (.int ((g2 &&& (255 : Int32)).toUInt32.toUInt16.toUInt32.toInt32)), (.int ((g1 &&& (255 : Int32)).toUInt32.toUInt16.toUInt32.toInt32)), (.int (g4 &&& (3 : Int32)))])) rfl (by rw [hml]; rfl) (argsL := [(.int (g4 &&& (3 : Int32))), (.int ((g1 &&& (255 : Int32)).toUInt32.toUInt16.toUInt32.toInt32)), (.int ((g2 &&& (255 : Int32)).toUInt32.toUInt16.toUInt32.toInt32)), (.int ((g3 &&& (255 : Int32)).toUInt32.toUInt16.toUInt32.toInt32))]) (rest := []) (lenOf own_pd6 rfl) rfl (by show 2 * 0 + _ ≤ _; exact Nat.le_of_eq rfl) (hb hby at_74) (fun _ _ => ⟨rfl, e0, (by decide : 0 + 6 ≤ _), (by decide : 0 + 16 ≤ _)⟩)
        dsimp only [Pt.U, Pt.locs, Pt.cells, Pt.slots] at X41 l41 y41 z41 st41 hQ41
        subst l41 y41 z41
        obtain ⟨sa, rfl, N41q, K41⟩ := hQ41
        have N0' := Fr.app N0 N41q
        have hS := foldS (s := s) hS (Nat.le_trans hk0 (Nat.le_of_eq (congrArg Array.size (Eq.symm (e0))))) hS41 hg41
        have hZ : Z.Warmed39 (s.setVm T41.vm).vm := State.Warmed39.trans (t := (s.setVm s.vm)) hZ hS41.1
        have hown : (s.setVm T41.vm).vm.findClass "com/example/idiolect/idiolect/internal/mf2/KeyIsCatchAllPinLaw" = some m.cls := by rw [show (s.setVm T41.vm).vm = T41.vm from rfl, hS41.1.alike.findClass]; exact hown
        have hk0 := Nat.le_refl T41.heap.size
        have X41 : Stand p l e room_1 (s.setVm T41.vm) m #[(.int g0), (.int g1), (.int g2), (.int g3), (.int g4)] below meth c T41 _ _ _ := X41
        have O := O.keep K41 (all0)
        have Z0' := Nat.le_trans Z0 K41.1
        refine own_trW (T' := T41) (g' := (mkF m 77 #[.val (.int g0), .val (.int g1), .val (.int g2), .val (.int g3), .val (.int g4), .val (.int z5), .val (.int z6), .unset, .unset, .unset] [(.ref sa)])) st41 ?_
        refine own_stW (T' := T41) (g' := (mkF m 79 #[.val (.int g0), .val (.int g1), .val (.int g2), .val (.int g3), .val (.int g4), .val (.int z5), .val (.int z6), .val (.ref sa), .unset, .unset] [])) (fun _ k => XS.astore X41.here hx rfl (hb hby at_77) rfl rfl (l' := #[.val (.int g0), .val (.int g1), .val (.int g2), .val (.int g3), .val (.int g4), .val (.int z5), .val (.int z6), .val (.ref sa), .unset, .unset]) rfl k) ?_
        obtain ⟨T42, h42, X42, e42, E42, A42, D42, -, st42⟩ := newO X41 hx hZ hown (hw _ (List.mem_of_getElem? (i := 26) rfl)) (hw _ (List.mem_of_getElem? (i := 27) rfl)) (hw _ (List.mem_of_getElem? (i := 28) rfl)) rfl (g := (mkF m 79 #[.val (.int g0), .val (.int g1), .val (.int g2), .val (.int g3), .val (.int g4), .val (.int z5), .val (.int z6), .val (.ref sa), .unset, .unset] [])) rfl (hb hby at_79) (by decide) (by decide)
        obtain ⟨ky, gky⟩ : ∃ z, z = T41.heap.size := ⟨_, rfl⟩
        rw [← gky] at A42 D42 st42
        have ge_ky : n0 ≤ ky := own_ge Z0' gky
        have O := O.ext E42
        have Z0'' := Nat.le_trans Z0' E42.1
        have hk0 := Nat.le_trans hk0 E42.1
        have E_ky := A42
        have F_value_ky : Fld Z h42 ky "com/example/idiolect/idiolect/internal/mf2/Variant$Key" "value" "Ljava/lang/String;" .null := D42 (Or.inr (hw _ (List.mem_of_getElem? (i := 39) rfl))) (ty := (.object "java/lang/String")) (by decide)
        refine own_stW (T' := T42) (g' := (mkF m 82 #[.val (.int g0), .val (.int g1), .val (.int g2), .val (.int g3), .val (.int g4), .val (.int z5), .val (.int z6), .val (.ref sa), .unset, .unset] [(.ref ky)])) st42 ?_
        refine own_stW (T' := T42) (g' := (mkF m 83 #[.val (.int g0), .val (.int g1), .val (.int g2), .val (.int g3), .val (.int g4), .val (.int z5), .val (.int z6), .val (.ref sa), .unset, .unset] [(.ref ky), (.ref ky)])) (fun _ k => XS.dup X42.here hx rfl (hb hby at_82) rfl rfl k) ?_
        refine own_stW (T' := T42) (g' := (mkF m 85 #[.val (.int g0), .val (.int g1), .val (.int g2), .val (.int g3), .val (.int g4), .val (.int z5), .val (.int z6), .val (.ref sa), .unset, .unset] [(.ref sa), (.ref ky), (.ref ky)])) (fun _ k => XS.aload X42.here hx rfl (hb hby at_83) rfl rfl k) ?_
        obtain ⟨vq43, _, ⟨T43, L43, k43, n43⟩, -, X43, ⟨Lc43, hQ43, l43, y43, z43⟩, st43⟩ := X42.specialBack hx (y := (⟨"com/example/idiolect/idiolect/internal/mf2/Variant$Key", "<init>", "(Ljava/lang/String;)V"⟩ : MethodName)) rfl hown (mvT hZ (hw _ (List.mem_of_getElem? (i := 29) rfl))) (mvT hZ (hw _ (List.mem_of_getElem? (i := 30) rfl))) (mvT hZ (hw _ (List.mem_of_getElem? (i := 31) rfl))) (by decide) (backOf (W := 1) (own_key l Z a0 hw [] ky (.ref sa) h42 n0 Z0'' rfl F_value_ky E_ky ge_ky) hZ (hw _ (List.mem_of_getElem? (i := 31) rfl)) (hw _ (List.mem_of_getElem? (i := 28) rfl)) (by decide) (by decide)) (g := (mkF m 85 #[.val (.int g0), .val (.int g1), .val (.int g2), .val (.int g3), .val (.int g4), .val (.int z5), .val (.int z6), .val (.ref sa), .unset, .unset] [(.ref sa), (.ref ky), (.ref ky)])) rfl (by rw [hml]; rfl) (Steps.refl _) (a := ky) (argsL := [(.ref sa)]) (rest := [(.ref ky)]) (lenOf own_pd7 rfl) rfl (by show 2 * 0 + _ ≤ _; exact Nat.le_of_eq rfl) (hb hby at_85) (fun _ _ => ⟨rfl, e42, (by decide : ((0 + 6) + 1) + 0 ≤ _), (by decide : ((0 + 16) + 1) + 0 ≤ _)⟩)
        dsimp only [Pt.U, Pt.locs, Pt.cells, Pt.slots] at X43 l43 y43 z43 st43 hQ43
        subst l43 y43 z43
        obtain ⟨rfl, N43q, K43, Fk⟩ := hQ43
        have N0'' := Fr.app N0' N43q
        have O := O.keep K43 ((allS ge_ky all0))
        have E_ky := E_ky.keep K43
        have Z0''' := Nat.le_trans Z0'' K43.1
        have hk0 := Nat.le_trans hk0 K43.1
        refine own_trW (T' := T43) (g' := (mkF m 88 #[.val (.int g0), .val (.int g1), .val (.int g2), .val (.int g3), .val (.int g4), .val (.int z5), .val (.int z6), .val (.ref sa), .unset, .unset] [(.ref ky)])) st43 ?_
        refine own_stW (T' := T43) (g' := (mkF m 90 #[.val (.int g0), .val (.int g1), .val (.int g2), .val (.int g3), .val (.int g4), .val (.int z5), .val (.int z6), .val (.ref sa), .val (.ref ky), .unset] [])) (fun _ k => XS.astore X43.here hx rfl (hb hby at_88) rfl rfl (l' := #[.val (.int g0), .val (.int g1), .val (.int g2), .val (.int g3), .val (.int g4), .val (.int z5), .val (.int z6), .val (.ref sa), .val (.ref ky), .unset]) rfl k) ?_
        refine own_stW (T' := T43) (g' := (mkF m 92 #[.val (.int g0), .val (.int g1), .val (.int g2), .val (.int g3), .val (.int g4), .val (.int z5), .val (.int z6), .val (.ref sa), .val (.ref ky), .unset] [(.ref ky)])) (fun _ k => XS.aload X43.here hx rfl (hb hby at_90) rfl rfl k) ?_
        obtain ⟨cq44, kq44, q44a, q44b, q44c⟩ := isOf hZ rfl E_ky
        obtain ⟨vq44, _, ⟨T44, L44, k44, n44⟩, -, X44, ⟨Lc44, hQ44, l44, y44, z44⟩, st44⟩ := X43.virtualBack hx (y := (⟨"com/example/idiolect/idiolect/internal/mf2/Variant$Key", "isCatchAll", "()Z"⟩ : MethodName)) (z := (⟨"com/example/idiolect/idiolect/internal/mf2/Variant$Key", "isCatchAll", "()Z"⟩ : MethodName)) hown (mvT hZ (hw _ (List.mem_of_getElem? (i := 40) rfl))) (mvT hZ (hw _ (List.mem_of_getElem? (i := 41) rfl))) (notFace_of_selects (args := #[]) (mvT hZ (hw _ (List.mem_of_getElem? (i := 43) rfl)))) (mvT hZ (hw _ (List.mem_of_getElem? (i := 43) rfl))) (mvT hZ (hw _ (List.mem_of_getElem? (i := 42) rfl))) (by decide) (backOf (W := 0) (own_catch l Z a0 hw [] ky (.ref sa) T43.heap n0 Z0''' rfl Fk) hZ (hw _ (List.mem_of_getElem? (i := 44) rfl)) (hw _ (List.mem_of_getElem? (i := 28) rfl)) (by decide) (by decide)) q44a q44c (g := (mkF m 92 #[.val (.int g0), .val (.int g1), .val (.int g2), .val (.int g3), .val (.int g4), .val (.int z5), .val (.int z6), .val (.ref sa), .val (.ref ky), .unset] [(.ref ky)])) rfl (by rw [hml]; rfl) (Steps.refl _) (argsL := []) (rest := []) (lenOf own_pd8 rfl) rfl (by show 2 * 0 + _ ≤ _; exact Nat.le_of_eq rfl) (hb hby at_92) (fun _ _ => ⟨rfl, rfl, (by decide : (((0 + 6) + 1) + 0) + 0 ≤ _), (by decide : (((0 + 16) + 1) + 0) + 0 ≤ _)⟩)
        dsimp only [Pt.U, Pt.locs, Pt.cells, Pt.slots] at X44 l44 y44 z44 st44 hQ44
        subst l44 y44 z44
        obtain ⟨hv, N44q, e44⟩ := hQ44
        rw [if_neg (by simp)] at hv
        subst hv
        have N0''' := Fr.app N0'' N44q
        refine own_trW (T' := T44) (g' := (mkF m 95 #[.val (.int g0), .val (.int g1), .val (.int g2), .val (.int g3), .val (.int g4), .val (.int z5), .val (.int z6), .val (.ref sa), .val (.ref ky), .unset] [(.int (0 : Int32))])) st44 ?_
        refine own_stW (T' := T44) (g' := (mkF m 97 #[.val (.int g0), .val (.int g1), .val (.int g2), .val (.int g3), .val (.int g4), .val (.int z5), .val (.int z6), .val (.ref sa), .val (.ref ky), .val (.int (0 : Int32))] [])) (fun _ k => XS.istore X44.here hx rfl (hb hby at_95) rfl (l' := #[.val (.int g0), .val (.int g1), .val (.int g2), .val (.int g3), .val (.int g4), .val (.int z5), .val (.int z6), .val (.ref sa), .val (.ref ky), .val (.int (0 : Int32))]) rfl k) ?_
        refine own_stW (T' := T44) (g' := (mkF m 99 #[.val (.int g0), .val (.int g1), .val (.int g2), .val (.int g3), .val (.int g4), .val (.int z5), .val (.int z6), .val (.ref sa), .val (.ref ky), .val (.int (0 : Int32))] [(.int (0 : Int32))])) (fun _ k => XS.iload X44.here hx rfl (hb hby at_97) rfl k) ?_
        refine own_stW (T' := T44) (g' := (mkF m 101 #[.val (.int g0), .val (.int g1), .val (.int g2), .val (.int g3), .val (.int g4), .val (.int z5), .val (.int z6), .val (.ref sa), .val (.ref ky), .val (.int (0 : Int32))] [(.ref sa), (.int (0 : Int32))])) (fun _ k => XS.aload X44.here hx rfl (hb hby at_99) rfl rfl k) ?_
        refine own_stW (T' := T44) (g' := (mkF m 108 #[.val (.int g0), .val (.int g1), .val (.int g2), .val (.int g3), .val (.int g4), .val (.int z5), .val (.int z6), .val (.ref sa), .val (.ref ky), .val (.int (0 : Int32))] [(.int (0 : Int32))])) (fun _ k => Jvm.Free.XT.nonnullYes X44.here hx rfl (pc0 := 101) (pc' := 108) rfl (hb hby at_101) rfl rfl (by simp) (by decide) (by decide) k) ?_
        refine own_stW (T' := T44) (g' := (mkF m 109 #[.val (.int g0), .val (.int g1), .val (.int g2), .val (.int g3), .val (.int g4), .val (.int z5), .val (.int z6), .val (.ref sa), .val (.ref ky), .val (.int (0 : Int32))] [(.int (0 : Int32)), (.int (0 : Int32))])) (fun _ k => XS.iconst X44.here hx rfl (hb hby at_108) k) ?_
        refine own_stW (T' := T44) (g' := (mkF m 112 #[.val (.int g0), .val (.int g1), .val (.int g2), .val (.int g3), .val (.int g4), .val (.int z5), .val (.int z6), .val (.ref sa), .val (.ref ky), .val (.int (0 : Int32))] [])) (fun _ k => XS.icmpNo X44.here hx rfl (hb hby at_109) rfl (Jvm.Free.XT.ii_ne_f rfl) k) ?_
        have SK := SK0.ext O.2
        have FK := FK0.ext O.2
        have EK := EK0.ext O.2
        obtain ⟨T45, X45, e45, st45⟩ := getS2 X44 hx hZ hown (host := "") (Or.inl (hw _ (List.mem_of_getElem? (i := 45) rfl))) Via.refl e44 SK (g := (mkF m 112 #[.val (.int g0), .val (.int g1), .val (.int g2), .val (.int g3), .val (.int g4), .val (.int z5), .val (.int z6), .val (.ref sa), .val (.ref ky), .val (.int (0 : Int32))] [])) rfl (hb hby at_112)
        refine own_stW (T' := T45) (g' := (mkF m 115 #[.val (.int g0), .val (.int g1), .val (.int g2), .val (.int g3), .val (.int g4), .val (.int z5), .val (.int z6), .val (.ref sa), .val (.ref ky), .val (.int (0 : Int32))] [(.ref aK)])) st45 ?_
        obtain ⟨cq46, kq46, q46a, q46b, q46c⟩ := isOf hZ e45 EK
        obtain ⟨vq46, _, ⟨T46, L46, k46, n46⟩, -, X46, ⟨Lc46, hQ46, l46, y46, z46⟩, st46⟩ := X45.virtualBack hx (y := (⟨"com/example/idiolect/idiolect/internal/mf2/Variant$Key", "isCatchAll", "()Z"⟩ : MethodName)) (z := (⟨"com/example/idiolect/idiolect/internal/mf2/Variant$Key", "isCatchAll", "()Z"⟩ : MethodName)) hown (mvT hZ (hw _ (List.mem_of_getElem? (i := 40) rfl))) (mvT hZ (hw _ (List.mem_of_getElem? (i := 41) rfl))) (notFace_of_selects (args := #[]) (mvT hZ (hw _ (List.mem_of_getElem? (i := 43) rfl)))) (mvT hZ (hw _ (List.mem_of_getElem? (i := 43) rfl))) (mvT hZ (hw _ (List.mem_of_getElem? (i := 42) rfl))) (by decide) (backOf (W := 0) (own_catch l Z a0 hw [] aK .null T43.heap n0 Z0''' rfl FK) hZ (hw _ (List.mem_of_getElem? (i := 44) rfl)) (hw _ (List.mem_of_getElem? (i := 28) rfl)) (by decide) (by decide)) q46a q46c (g := (mkF m 115 #[.val (.int g0), .val (.int g1), .val (.int g2), .val (.int g3), .val (.int g4), .val (.int z5), .val (.int z6), .val (.ref sa), .val (.ref ky), .val (.int (0 : Int32))] [(.ref aK)])) rfl (by rw [hml]; rfl) (Steps.refl _) (argsL := []) (rest := []) (lenOf own_pd8 rfl) rfl (by show 2 * 0 + _ ≤ _; exact Nat.le_of_eq rfl) (hb hby at_115) (fun _ _ => ⟨rfl, e45, (by decide : ((((0 + 6) + 1) + 0) + 0) + 0 ≤ _), (by decide : ((((0 + 16) + 1) + 0) + 0) + 0 ≤ _)⟩)
        dsimp only [Pt.U, Pt.locs, Pt.cells, Pt.slots] at X46 l46 y46 z46 st46 hQ46
        subst l46 y46 z46
        obtain ⟨hv, N46q, e46⟩ := hQ46
        rw [if_pos rfl] at hv
        subst hv
        have N0'''' := Fr.app N0''' N46q
        refine own_trW (T' := T46) (g' := (mkF m 118 #[.val (.int g0), .val (.int g1), .val (.int g2), .val (.int g3), .val (.int g4), .val (.int z5), .val (.int z6), .val (.ref sa), .val (.ref ky), .val (.int (0 : Int32))] [(.int (1 : Int32))])) st46 ?_
        refine own_stW (T' := T46) (g' := (mkF m 121 #[.val (.int g0), .val (.int g1), .val (.int g2), .val (.int g3), .val (.int g4), .val (.int z5), .val (.int z6), .val (.ref sa), .val (.ref ky), .val (.int (0 : Int32))] [])) (fun _ k => XS.ifNo X46.here hx rfl (hb hby at_118) rfl (Jvm.Free.XT.i0_eq_f (by decide)) k) ?_
        refine own_stW (T' := T46) (g' := (mkF m 122 #[.val (.int g0), .val (.int g1), .val (.int g2), .val (.int g3), .val (.int g4), .val (.int z5), .val (.int z6), .val (.ref sa), .val (.ref ky), .val (.int (0 : Int32))] [(.int (1 : Int32))])) (fun _ k => XS.iconst X46.here hx rfl (hb hby at_121) k) ?_
        refine own_stW (T' := T46) (g' := (mkF m 126 #[.val (.int g0), .val (.int g1), .val (.int g2), .val (.int g3), .val (.int g4), .val (.int z5), .val (.int z6), .val (.ref sa), .val (.ref ky), .val (.int (0 : Int32))] [(.int (1 : Int32))])) (fun _ k => XS.goto X46.here hx rfl (pc0 := 122) (pc' := 126) rfl (hb hby at_122) (by decide) (by decide) k) ?_
        exact own_retNW X46 hS hx Bd.returns Bd.notSynchronized e46 hk0 (by simp) (hb hby at_126) ⟨rfl, N0''''⟩ (by decide) (by decide)
      · refine own_stW (T' := s₁) (g' := (mkF m 42 #[.val (.int g0), .val (.int g1), .val (.int g2), .val (.int g3), .val (.int g4), .val (.int z5), .val (.int z6), .unset, .unset, .unset] [])) (fun _ k => XS.ifNo X0.here hx rfl (hb hby at_39) rfl (Jvm.Free.XT.i0_eq_f qs) k) ?_
        refine own_stW (T' := s₁) (g' := (mkF m 44 #[.val (.int g0), .val (.int g1), .val (.int g2), .val (.int g3), .val (.int g4), .val (.int z5), .val (.int z6), .unset, .unset, .unset] [(.int (42 : Int32))])) (fun _ k => XS.bipush X0.here hx rfl (hb hby at_42) k) ?_
        obtain ⟨vq47, _, ⟨T47, L47, k47, n47⟩, -, X47, ⟨Lc47, hQ47, l47, y47, z47⟩, st47⟩ := Jvm.LawKit.callS X0 hx (y := (⟨"java/lang/String", "valueOf", "(C)Ljava/lang/String;"⟩ : MethodName)) hown (mvT hZ (hw _ (List.mem_of_getElem? (i := 58) rfl))) (mvT hZ (hw _ (List.mem_of_getElem? (i := 59) rfl))) (mvT hZ (hw _ (List.mem_of_getElem? (i := 6) rfl))) (mvT hZ (hw _ (List.mem_of_getElem? (i := 60) rfl))) (by decide) (backOf (W := 0) (own_valueOf l Z a0 hw [] (42 : Int32) cc h0 n0 Z0 (by decide) (SC0.ext O.2) hcs) hZ (hw _ (List.mem_of_getElem? (i := 60) rfl)) (hw _ (List.mem_of_getElem? (i := 6) rfl)) (by decide) (by decide)) (g := (mkF m 44 #[.val (.int g0), .val (.int g1), .val (.int g2), .val (.int g3), .val (.int g4), .val (.int z5), .val (.int z6), .unset, .unset, .unset] [(.int (42 : Int32))])) rfl (by rw [hml]; rfl) (argsL := [(.int (42 : Int32))]) (rest := []) (lenOf own_pd9 rfl) rfl (by show 2 * 0 + _ ≤ _; exact Nat.le_of_eq rfl) (hb hby at_44) (fun _ _ => ⟨rfl, e0, (by decide : 0 + 2 ≤ _), (by decide : 0 + 5 ≤ _)⟩)
        dsimp only [Pt.U, Pt.locs, Pt.cells, Pt.slots] at X47 l47 y47 z47 st47 hQ47
        subst l47 y47 z47
        obtain ⟨sa, t, kt, rfl, N47q, K47, -⟩ := hQ47
        have N0' := Fr.app N0 N47q
        have O := O.keep K47 (all0)
        have Z0' := Nat.le_trans Z0 K47.1
        have hk0 := Nat.le_trans hk0 K47.1
        refine own_stW (T' := T47) (g' := (mkF m 47 #[.val (.int g0), .val (.int g1), .val (.int g2), .val (.int g3), .val (.int g4), .val (.int z5), .val (.int z6), .unset, .unset, .unset] [(.ref sa)])) st47 ?_
        refine own_stW (T' := T47) (g' := (mkF m 49 #[.val (.int g0), .val (.int g1), .val (.int g2), .val (.int g3), .val (.int g4), .val (.int z5), .val (.int z6), .val (.ref sa), .unset, .unset] [])) (fun _ k => XS.astore X47.here hx rfl (hb hby at_47) rfl rfl (l' := #[.val (.int g0), .val (.int g1), .val (.int g2), .val (.int g3), .val (.int g4), .val (.int z5), .val (.int z6), .val (.ref sa), .unset, .unset]) rfl k) ?_
        refine own_stW (T' := T47) (g' := (mkF m 79 #[.val (.int g0), .val (.int g1), .val (.int g2), .val (.int g3), .val (.int g4), .val (.int z5), .val (.int z6), .val (.ref sa), .unset, .unset] [])) (fun _ k => XS.goto X47.here hx rfl (pc0 := 49) (pc' := 79) rfl (hb hby at_49) (by decide) (by decide) k) ?_
        obtain ⟨T48, h48, X48, e48, E48, A48, D48, -, st48⟩ := newO X47 hx hZ hown (hw _ (List.mem_of_getElem? (i := 26) rfl)) (hw _ (List.mem_of_getElem? (i := 27) rfl)) (hw _ (List.mem_of_getElem? (i := 28) rfl)) rfl (g := (mkF m 79 #[.val (.int g0), .val (.int g1), .val (.int g2), .val (.int g3), .val (.int g4), .val (.int z5), .val (.int z6), .val (.ref sa), .unset, .unset] [])) rfl (hb hby at_79) (by decide) (by decide)
        obtain ⟨ky, gky⟩ : ∃ z, z = T47.heap.size := ⟨_, rfl⟩
        rw [← gky] at A48 D48 st48
        have ge_ky : n0 ≤ ky := own_ge Z0' gky
        have O := O.ext E48
        have Z0'' := Nat.le_trans Z0' E48.1
        have hk0 := Nat.le_trans hk0 E48.1
        have E_ky := A48
        have F_value_ky : Fld Z h48 ky "com/example/idiolect/idiolect/internal/mf2/Variant$Key" "value" "Ljava/lang/String;" .null := D48 (Or.inr (hw _ (List.mem_of_getElem? (i := 39) rfl))) (ty := (.object "java/lang/String")) (by decide)
        refine own_stW (T' := T48) (g' := (mkF m 82 #[.val (.int g0), .val (.int g1), .val (.int g2), .val (.int g3), .val (.int g4), .val (.int z5), .val (.int z6), .val (.ref sa), .unset, .unset] [(.ref ky)])) st48 ?_
        refine own_stW (T' := T48) (g' := (mkF m 83 #[.val (.int g0), .val (.int g1), .val (.int g2), .val (.int g3), .val (.int g4), .val (.int z5), .val (.int z6), .val (.ref sa), .unset, .unset] [(.ref ky), (.ref ky)])) (fun _ k => XS.dup X48.here hx rfl (hb hby at_82) rfl rfl k) ?_
        refine own_stW (T' := T48) (g' := (mkF m 85 #[.val (.int g0), .val (.int g1), .val (.int g2), .val (.int g3), .val (.int g4), .val (.int z5), .val (.int z6), .val (.ref sa), .unset, .unset] [(.ref sa), (.ref ky), (.ref ky)])) (fun _ k => XS.aload X48.here hx rfl (hb hby at_83) rfl rfl k) ?_
        obtain ⟨vq49, _, ⟨T49, L49, k49, n49⟩, -, X49, ⟨Lc49, hQ49, l49, y49, z49⟩, st49⟩ := X48.specialBack hx (y := (⟨"com/example/idiolect/idiolect/internal/mf2/Variant$Key", "<init>", "(Ljava/lang/String;)V"⟩ : MethodName)) rfl hown (mvT hZ (hw _ (List.mem_of_getElem? (i := 29) rfl))) (mvT hZ (hw _ (List.mem_of_getElem? (i := 30) rfl))) (mvT hZ (hw _ (List.mem_of_getElem? (i := 31) rfl))) (by decide) (backOf (W := 1) (own_key l Z a0 hw [] ky (.ref sa) h48 n0 Z0'' rfl F_value_ky E_ky ge_ky) hZ (hw _ (List.mem_of_getElem? (i := 31) rfl)) (hw _ (List.mem_of_getElem? (i := 28) rfl)) (by decide) (by decide)) (g := (mkF m 85 #[.val (.int g0), .val (.int g1), .val (.int g2), .val (.int g3), .val (.int g4), .val (.int z5), .val (.int z6), .val (.ref sa), .unset, .unset] [(.ref sa), (.ref ky), (.ref ky)])) rfl (by rw [hml]; rfl) (Steps.refl _) (a := ky) (argsL := [(.ref sa)]) (rest := [(.ref ky)]) (lenOf own_pd7 rfl) rfl (by show 2 * 0 + _ ≤ _; exact Nat.le_of_eq rfl) (hb hby at_85) (fun _ _ => ⟨rfl, e48, (by decide : ((0 + 2) + 1) + 0 ≤ _), (by decide : ((0 + 5) + 1) + 0 ≤ _)⟩)
        dsimp only [Pt.U, Pt.locs, Pt.cells, Pt.slots] at X49 l49 y49 z49 st49 hQ49
        subst l49 y49 z49
        obtain ⟨rfl, N49q, K49, Fk⟩ := hQ49
        have N0'' := Fr.app N0' N49q
        have O := O.keep K49 ((allS ge_ky all0))
        have E_ky := E_ky.keep K49
        have Z0''' := Nat.le_trans Z0'' K49.1
        have hk0 := Nat.le_trans hk0 K49.1
        refine own_trW (T' := T49) (g' := (mkF m 88 #[.val (.int g0), .val (.int g1), .val (.int g2), .val (.int g3), .val (.int g4), .val (.int z5), .val (.int z6), .val (.ref sa), .unset, .unset] [(.ref ky)])) st49 ?_
        refine own_stW (T' := T49) (g' := (mkF m 90 #[.val (.int g0), .val (.int g1), .val (.int g2), .val (.int g3), .val (.int g4), .val (.int z5), .val (.int z6), .val (.ref sa), .val (.ref ky), .unset] [])) (fun _ k => XS.astore X49.here hx rfl (hb hby at_88) rfl rfl (l' := #[.val (.int g0), .val (.int g1), .val (.int g2), .val (.int g3), .val (.int g4), .val (.int z5), .val (.int z6), .val (.ref sa), .val (.ref ky), .unset]) rfl k) ?_
        refine own_stW (T' := T49) (g' := (mkF m 92 #[.val (.int g0), .val (.int g1), .val (.int g2), .val (.int g3), .val (.int g4), .val (.int z5), .val (.int z6), .val (.ref sa), .val (.ref ky), .unset] [(.ref ky)])) (fun _ k => XS.aload X49.here hx rfl (hb hby at_90) rfl rfl k) ?_
        obtain ⟨cq50, kq50, q50a, q50b, q50c⟩ := isOf hZ rfl E_ky
        obtain ⟨vq50, _, ⟨T50, L50, k50, n50⟩, -, X50, ⟨Lc50, hQ50, l50, y50, z50⟩, st50⟩ := X49.virtualBack hx (y := (⟨"com/example/idiolect/idiolect/internal/mf2/Variant$Key", "isCatchAll", "()Z"⟩ : MethodName)) (z := (⟨"com/example/idiolect/idiolect/internal/mf2/Variant$Key", "isCatchAll", "()Z"⟩ : MethodName)) hown (mvT hZ (hw _ (List.mem_of_getElem? (i := 40) rfl))) (mvT hZ (hw _ (List.mem_of_getElem? (i := 41) rfl))) (notFace_of_selects (args := #[]) (mvT hZ (hw _ (List.mem_of_getElem? (i := 43) rfl)))) (mvT hZ (hw _ (List.mem_of_getElem? (i := 43) rfl))) (mvT hZ (hw _ (List.mem_of_getElem? (i := 42) rfl))) (by decide) (backOf (W := 0) (own_catch l Z a0 hw [] ky (.ref sa) T49.heap n0 Z0''' rfl Fk) hZ (hw _ (List.mem_of_getElem? (i := 44) rfl)) (hw _ (List.mem_of_getElem? (i := 28) rfl)) (by decide) (by decide)) q50a q50c (g := (mkF m 92 #[.val (.int g0), .val (.int g1), .val (.int g2), .val (.int g3), .val (.int g4), .val (.int z5), .val (.int z6), .val (.ref sa), .val (.ref ky), .unset] [(.ref ky)])) rfl (by rw [hml]; rfl) (Steps.refl _) (argsL := []) (rest := []) (lenOf own_pd8 rfl) rfl (by show 2 * 0 + _ ≤ _; exact Nat.le_of_eq rfl) (hb hby at_92) (fun _ _ => ⟨rfl, rfl, (by decide : (((0 + 2) + 1) + 0) + 0 ≤ _), (by decide : (((0 + 5) + 1) + 0) + 0 ≤ _)⟩)
        dsimp only [Pt.U, Pt.locs, Pt.cells, Pt.slots] at X50 l50 y50 z50 st50 hQ50
        subst l50 y50 z50
        obtain ⟨hv, N50q, e50⟩ := hQ50
        rw [if_neg (by simp)] at hv
        subst hv
        have N0''' := Fr.app N0'' N50q
        refine own_trW (T' := T50) (g' := (mkF m 95 #[.val (.int g0), .val (.int g1), .val (.int g2), .val (.int g3), .val (.int g4), .val (.int z5), .val (.int z6), .val (.ref sa), .val (.ref ky), .unset] [(.int (0 : Int32))])) st50 ?_
        refine own_stW (T' := T50) (g' := (mkF m 97 #[.val (.int g0), .val (.int g1), .val (.int g2), .val (.int g3), .val (.int g4), .val (.int z5), .val (.int z6), .val (.ref sa), .val (.ref ky), .val (.int (0 : Int32))] [])) (fun _ k => XS.istore X50.here hx rfl (hb hby at_95) rfl (l' := #[.val (.int g0), .val (.int g1), .val (.int g2), .val (.int g3), .val (.int g4), .val (.int z5), .val (.int z6), .val (.ref sa), .val (.ref ky), .val (.int (0 : Int32))]) rfl k) ?_
        refine own_stW (T' := T50) (g' := (mkF m 99 #[.val (.int g0), .val (.int g1), .val (.int g2), .val (.int g3), .val (.int g4), .val (.int z5), .val (.int z6), .val (.ref sa), .val (.ref ky), .val (.int (0 : Int32))] [(.int (0 : Int32))])) (fun _ k => XS.iload X50.here hx rfl (hb hby at_97) rfl k) ?_
        refine own_stW (T' := T50) (g' := (mkF m 101 #[.val (.int g0), .val (.int g1), .val (.int g2), .val (.int g3), .val (.int g4), .val (.int z5), .val (.int z6), .val (.ref sa), .val (.ref ky), .val (.int (0 : Int32))] [(.ref sa), (.int (0 : Int32))])) (fun _ k => XS.aload X50.here hx rfl (hb hby at_99) rfl rfl k) ?_
        refine own_stW (T' := T50) (g' := (mkF m 108 #[.val (.int g0), .val (.int g1), .val (.int g2), .val (.int g3), .val (.int g4), .val (.int z5), .val (.int z6), .val (.ref sa), .val (.ref ky), .val (.int (0 : Int32))] [(.int (0 : Int32))])) (fun _ k => Jvm.Free.XT.nonnullYes X50.here hx rfl (pc0 := 101) (pc' := 108) rfl (hb hby at_101) rfl rfl (by simp) (by decide) (by decide) k) ?_
        refine own_stW (T' := T50) (g' := (mkF m 109 #[.val (.int g0), .val (.int g1), .val (.int g2), .val (.int g3), .val (.int g4), .val (.int z5), .val (.int z6), .val (.ref sa), .val (.ref ky), .val (.int (0 : Int32))] [(.int (0 : Int32)), (.int (0 : Int32))])) (fun _ k => XS.iconst X50.here hx rfl (hb hby at_108) k) ?_
        refine own_stW (T' := T50) (g' := (mkF m 112 #[.val (.int g0), .val (.int g1), .val (.int g2), .val (.int g3), .val (.int g4), .val (.int z5), .val (.int z6), .val (.ref sa), .val (.ref ky), .val (.int (0 : Int32))] [])) (fun _ k => XS.icmpNo X50.here hx rfl (hb hby at_109) rfl (Jvm.Free.XT.ii_ne_f rfl) k) ?_
        have SK := SK0.ext O.2
        have FK := FK0.ext O.2
        have EK := EK0.ext O.2
        obtain ⟨T51, X51, e51, st51⟩ := getS2 X50 hx hZ hown (host := "") (Or.inl (hw _ (List.mem_of_getElem? (i := 45) rfl))) Via.refl e50 SK (g := (mkF m 112 #[.val (.int g0), .val (.int g1), .val (.int g2), .val (.int g3), .val (.int g4), .val (.int z5), .val (.int z6), .val (.ref sa), .val (.ref ky), .val (.int (0 : Int32))] [])) rfl (hb hby at_112)
        refine own_stW (T' := T51) (g' := (mkF m 115 #[.val (.int g0), .val (.int g1), .val (.int g2), .val (.int g3), .val (.int g4), .val (.int z5), .val (.int z6), .val (.ref sa), .val (.ref ky), .val (.int (0 : Int32))] [(.ref aK)])) st51 ?_
        obtain ⟨cq52, kq52, q52a, q52b, q52c⟩ := isOf hZ e51 EK
        obtain ⟨vq52, _, ⟨T52, L52, k52, n52⟩, -, X52, ⟨Lc52, hQ52, l52, y52, z52⟩, st52⟩ := X51.virtualBack hx (y := (⟨"com/example/idiolect/idiolect/internal/mf2/Variant$Key", "isCatchAll", "()Z"⟩ : MethodName)) (z := (⟨"com/example/idiolect/idiolect/internal/mf2/Variant$Key", "isCatchAll", "()Z"⟩ : MethodName)) hown (mvT hZ (hw _ (List.mem_of_getElem? (i := 40) rfl))) (mvT hZ (hw _ (List.mem_of_getElem? (i := 41) rfl))) (notFace_of_selects (args := #[]) (mvT hZ (hw _ (List.mem_of_getElem? (i := 43) rfl)))) (mvT hZ (hw _ (List.mem_of_getElem? (i := 43) rfl))) (mvT hZ (hw _ (List.mem_of_getElem? (i := 42) rfl))) (by decide) (backOf (W := 0) (own_catch l Z a0 hw [] aK .null T49.heap n0 Z0''' rfl FK) hZ (hw _ (List.mem_of_getElem? (i := 44) rfl)) (hw _ (List.mem_of_getElem? (i := 28) rfl)) (by decide) (by decide)) q52a q52c (g := (mkF m 115 #[.val (.int g0), .val (.int g1), .val (.int g2), .val (.int g3), .val (.int g4), .val (.int z5), .val (.int z6), .val (.ref sa), .val (.ref ky), .val (.int (0 : Int32))] [(.ref aK)])) rfl (by rw [hml]; rfl) (Steps.refl _) (argsL := []) (rest := []) (lenOf own_pd8 rfl) rfl (by show 2 * 0 + _ ≤ _; exact Nat.le_of_eq rfl) (hb hby at_115) (fun _ _ => ⟨rfl, e51, (by decide : ((((0 + 2) + 1) + 0) + 0) + 0 ≤ _), (by decide : ((((0 + 5) + 1) + 0) + 0) + 0 ≤ _)⟩)
        dsimp only [Pt.U, Pt.locs, Pt.cells, Pt.slots] at X52 l52 y52 z52 st52 hQ52
        subst l52 y52 z52
        obtain ⟨hv, N52q, e52⟩ := hQ52
        rw [if_pos rfl] at hv
        subst hv
        have N0'''' := Fr.app N0''' N52q
        refine own_trW (T' := T52) (g' := (mkF m 118 #[.val (.int g0), .val (.int g1), .val (.int g2), .val (.int g3), .val (.int g4), .val (.int z5), .val (.int z6), .val (.ref sa), .val (.ref ky), .val (.int (0 : Int32))] [(.int (1 : Int32))])) st52 ?_
        refine own_stW (T' := T52) (g' := (mkF m 121 #[.val (.int g0), .val (.int g1), .val (.int g2), .val (.int g3), .val (.int g4), .val (.int z5), .val (.int z6), .val (.ref sa), .val (.ref ky), .val (.int (0 : Int32))] [])) (fun _ k => XS.ifNo X52.here hx rfl (hb hby at_118) rfl (Jvm.Free.XT.i0_eq_f (by decide)) k) ?_
        refine own_stW (T' := T52) (g' := (mkF m 122 #[.val (.int g0), .val (.int g1), .val (.int g2), .val (.int g3), .val (.int g4), .val (.int z5), .val (.int z6), .val (.ref sa), .val (.ref ky), .val (.int (0 : Int32))] [(.int (1 : Int32))])) (fun _ k => XS.iconst X52.here hx rfl (hb hby at_121) k) ?_
        refine own_stW (T' := T52) (g' := (mkF m 126 #[.val (.int g0), .val (.int g1), .val (.int g2), .val (.int g3), .val (.int g4), .val (.int z5), .val (.int z6), .val (.ref sa), .val (.ref ky), .val (.int (0 : Int32))] [(.int (1 : Int32))])) (fun _ k => XS.goto X52.here hx rfl (pc0 := 122) (pc' := 126) rfl (hb hby at_122) (by decide) (by decide) k) ?_
        exact own_retNW X52 hS hx Bd.returns Bd.notSynchronized e52 hk0 (by simp) (hb hby at_126) ⟨rfl, N0''''⟩ (by decide) (by decide)
    · refine own_stW (T' := s₁) (g' := (mkF m 31 #[.val (.int g0), .val (.int g1), .val (.int g2), .val (.int g3), .val (.int g4), .val (.int z5), .val (.int z6), .unset, .unset, .unset] [])) (fun _ k => XS.ifNo X0.here hx rfl (hb hby at_28) rfl (Jvm.Free.XT.i0_eq_f qn) k) ?_
      refine own_stW (T' := s₁) (g' := (mkF m 32 #[.val (.int g0), .val (.int g1), .val (.int g2), .val (.int g3), .val (.int g4), .val (.int z5), .val (.int z6), .unset, .unset, .unset] [.null])) (fun _ k => XS.aconstNull X0.here hx rfl (hb hby at_31) k) ?_
      refine own_stW (T' := s₁) (g' := (mkF m 34 #[.val (.int g0), .val (.int g1), .val (.int g2), .val (.int g3), .val (.int g4), .val (.int z5), .val (.int z6), .val .null, .unset, .unset] [])) (fun _ k => XS.astore X0.here hx rfl (hb hby at_32) rfl rfl (l' := #[.val (.int g0), .val (.int g1), .val (.int g2), .val (.int g3), .val (.int g4), .val (.int z5), .val (.int z6), .val .null, .unset, .unset]) rfl k) ?_
      refine own_stW (T' := s₁) (g' := (mkF m 79 #[.val (.int g0), .val (.int g1), .val (.int g2), .val (.int g3), .val (.int g4), .val (.int z5), .val (.int z6), .val .null, .unset, .unset] [])) (fun _ k => XS.goto X0.here hx rfl (pc0 := 34) (pc' := 79) rfl (hb hby at_34) (by decide) (by decide) k) ?_
      obtain ⟨T53, h53, X53, e53, E53, A53, D53, -, st53⟩ := newO X0 hx hZ hown (hw _ (List.mem_of_getElem? (i := 26) rfl)) (hw _ (List.mem_of_getElem? (i := 27) rfl)) (hw _ (List.mem_of_getElem? (i := 28) rfl)) e0 (g := (mkF m 79 #[.val (.int g0), .val (.int g1), .val (.int g2), .val (.int g3), .val (.int g4), .val (.int z5), .val (.int z6), .val .null, .unset, .unset] [])) rfl (hb hby at_79) (by decide) (by decide)
      obtain ⟨ky, gky⟩ : ∃ z, z = h0.size := ⟨_, rfl⟩
      rw [← gky] at A53 D53 st53
      have ge_ky : n0 ≤ ky := own_ge Z0 gky
      have O := O.ext E53
      have Z0' := Nat.le_trans Z0 E53.1
      have hk0 := Nat.le_trans hk0 E53.1
      have hH := CHv.ext E53 hH
      have E_ky := A53
      have F_value_ky : Fld Z h53 ky "com/example/idiolect/idiolect/internal/mf2/Variant$Key" "value" "Ljava/lang/String;" .null := D53 (Or.inr (hw _ (List.mem_of_getElem? (i := 39) rfl))) (ty := (.object "java/lang/String")) (by decide)
      refine own_stW (T' := T53) (g' := (mkF m 82 #[.val (.int g0), .val (.int g1), .val (.int g2), .val (.int g3), .val (.int g4), .val (.int z5), .val (.int z6), .val .null, .unset, .unset] [(.ref ky)])) st53 ?_
      refine own_stW (T' := T53) (g' := (mkF m 83 #[.val (.int g0), .val (.int g1), .val (.int g2), .val (.int g3), .val (.int g4), .val (.int z5), .val (.int z6), .val .null, .unset, .unset] [(.ref ky), (.ref ky)])) (fun _ k => XS.dup X53.here hx rfl (hb hby at_82) rfl rfl k) ?_
      refine own_stW (T' := T53) (g' := (mkF m 85 #[.val (.int g0), .val (.int g1), .val (.int g2), .val (.int g3), .val (.int g4), .val (.int z5), .val (.int z6), .val .null, .unset, .unset] [.null, (.ref ky), (.ref ky)])) (fun _ k => XS.aload X53.here hx rfl (hb hby at_83) rfl rfl k) ?_
      obtain ⟨vq54, _, ⟨T54, L54, k54, n54⟩, -, X54, ⟨Lc54, hQ54, l54, y54, z54⟩, st54⟩ := X53.specialBack hx (y := (⟨"com/example/idiolect/idiolect/internal/mf2/Variant$Key", "<init>", "(Ljava/lang/String;)V"⟩ : MethodName)) rfl hown (mvT hZ (hw _ (List.mem_of_getElem? (i := 29) rfl))) (mvT hZ (hw _ (List.mem_of_getElem? (i := 30) rfl))) (mvT hZ (hw _ (List.mem_of_getElem? (i := 31) rfl))) (by decide) (backOf (W := 1) (own_key l Z a0 hw [] ky .null h53 n0 Z0' rfl F_value_ky E_ky ge_ky) hZ (hw _ (List.mem_of_getElem? (i := 31) rfl)) (hw _ (List.mem_of_getElem? (i := 28) rfl)) (by decide) (by decide)) (g := (mkF m 85 #[.val (.int g0), .val (.int g1), .val (.int g2), .val (.int g3), .val (.int g4), .val (.int z5), .val (.int z6), .val .null, .unset, .unset] [.null, (.ref ky), (.ref ky)])) rfl (by rw [hml]; rfl) (Steps.refl _) (a := ky) (argsL := [.null]) (rest := [(.ref ky)]) (lenOf own_pd7 rfl) rfl (by show 2 * 0 + _ ≤ _; exact Nat.le_of_eq rfl) (hb hby at_85) (fun _ _ => ⟨rfl, e53, (by decide : (0 + 1) + 0 ≤ _), (by decide : (0 + 1) + 0 ≤ _)⟩)
      dsimp only [Pt.U, Pt.locs, Pt.cells, Pt.slots] at X54 l54 y54 z54 st54 hQ54
      subst l54 y54 z54
      obtain ⟨rfl, N54q, K54, Fk⟩ := hQ54
      have N0' := Fr.app N0 N54q
      have O := O.keep K54 ((allS ge_ky all0))
      have E_ky := E_ky.keep K54
      have Z0'' := Nat.le_trans Z0' K54.1
      have hk0 := Nat.le_trans hk0 K54.1
      refine own_trW (T' := T54) (g' := (mkF m 88 #[.val (.int g0), .val (.int g1), .val (.int g2), .val (.int g3), .val (.int g4), .val (.int z5), .val (.int z6), .val .null, .unset, .unset] [(.ref ky)])) st54 ?_
      refine own_stW (T' := T54) (g' := (mkF m 90 #[.val (.int g0), .val (.int g1), .val (.int g2), .val (.int g3), .val (.int g4), .val (.int z5), .val (.int z6), .val .null, .val (.ref ky), .unset] [])) (fun _ k => XS.astore X54.here hx rfl (hb hby at_88) rfl rfl (l' := #[.val (.int g0), .val (.int g1), .val (.int g2), .val (.int g3), .val (.int g4), .val (.int z5), .val (.int z6), .val .null, .val (.ref ky), .unset]) rfl k) ?_
      refine own_stW (T' := T54) (g' := (mkF m 92 #[.val (.int g0), .val (.int g1), .val (.int g2), .val (.int g3), .val (.int g4), .val (.int z5), .val (.int z6), .val .null, .val (.ref ky), .unset] [(.ref ky)])) (fun _ k => XS.aload X54.here hx rfl (hb hby at_90) rfl rfl k) ?_
      obtain ⟨cq55, kq55, q55a, q55b, q55c⟩ := isOf hZ rfl E_ky
      obtain ⟨vq55, _, ⟨T55, L55, k55, n55⟩, -, X55, ⟨Lc55, hQ55, l55, y55, z55⟩, st55⟩ := X54.virtualBack hx (y := (⟨"com/example/idiolect/idiolect/internal/mf2/Variant$Key", "isCatchAll", "()Z"⟩ : MethodName)) (z := (⟨"com/example/idiolect/idiolect/internal/mf2/Variant$Key", "isCatchAll", "()Z"⟩ : MethodName)) hown (mvT hZ (hw _ (List.mem_of_getElem? (i := 40) rfl))) (mvT hZ (hw _ (List.mem_of_getElem? (i := 41) rfl))) (notFace_of_selects (args := #[]) (mvT hZ (hw _ (List.mem_of_getElem? (i := 43) rfl)))) (mvT hZ (hw _ (List.mem_of_getElem? (i := 43) rfl))) (mvT hZ (hw _ (List.mem_of_getElem? (i := 42) rfl))) (by decide) (backOf (W := 0) (own_catch l Z a0 hw [] ky .null T54.heap n0 Z0'' rfl Fk) hZ (hw _ (List.mem_of_getElem? (i := 44) rfl)) (hw _ (List.mem_of_getElem? (i := 28) rfl)) (by decide) (by decide)) q55a q55c (g := (mkF m 92 #[.val (.int g0), .val (.int g1), .val (.int g2), .val (.int g3), .val (.int g4), .val (.int z5), .val (.int z6), .val .null, .val (.ref ky), .unset] [(.ref ky)])) rfl (by rw [hml]; rfl) (Steps.refl _) (argsL := []) (rest := []) (lenOf own_pd8 rfl) rfl (by show 2 * 0 + _ ≤ _; exact Nat.le_of_eq rfl) (hb hby at_92) (fun _ _ => ⟨rfl, rfl, (by decide : ((0 + 1) + 0) + 0 ≤ _), (by decide : ((0 + 1) + 0) + 0 ≤ _)⟩)
      dsimp only [Pt.U, Pt.locs, Pt.cells, Pt.slots] at X55 l55 y55 z55 st55 hQ55
      subst l55 y55 z55
      obtain ⟨hv, N55q, e55⟩ := hQ55
      rw [if_pos rfl] at hv
      subst hv
      have N0'' := Fr.app N0' N55q
      refine own_trW (T' := T55) (g' := (mkF m 95 #[.val (.int g0), .val (.int g1), .val (.int g2), .val (.int g3), .val (.int g4), .val (.int z5), .val (.int z6), .val .null, .val (.ref ky), .unset] [(.int (1 : Int32))])) st55 ?_
      refine own_stW (T' := T55) (g' := (mkF m 97 #[.val (.int g0), .val (.int g1), .val (.int g2), .val (.int g3), .val (.int g4), .val (.int z5), .val (.int z6), .val .null, .val (.ref ky), .val (.int (1 : Int32))] [])) (fun _ k => XS.istore X55.here hx rfl (hb hby at_95) rfl (l' := #[.val (.int g0), .val (.int g1), .val (.int g2), .val (.int g3), .val (.int g4), .val (.int z5), .val (.int z6), .val .null, .val (.ref ky), .val (.int (1 : Int32))]) rfl k) ?_
      refine own_stW (T' := T55) (g' := (mkF m 99 #[.val (.int g0), .val (.int g1), .val (.int g2), .val (.int g3), .val (.int g4), .val (.int z5), .val (.int z6), .val .null, .val (.ref ky), .val (.int (1 : Int32))] [(.int (1 : Int32))])) (fun _ k => XS.iload X55.here hx rfl (hb hby at_97) rfl k) ?_
      refine own_stW (T' := T55) (g' := (mkF m 101 #[.val (.int g0), .val (.int g1), .val (.int g2), .val (.int g3), .val (.int g4), .val (.int z5), .val (.int z6), .val .null, .val (.ref ky), .val (.int (1 : Int32))] [.null, (.int (1 : Int32))])) (fun _ k => XS.aload X55.here hx rfl (hb hby at_99) rfl rfl k) ?_
      refine own_stW (T' := T55) (g' := (mkF m 104 #[.val (.int g0), .val (.int g1), .val (.int g2), .val (.int g3), .val (.int g4), .val (.int z5), .val (.int z6), .val .null, .val (.ref ky), .val (.int (1 : Int32))] [(.int (1 : Int32))])) (fun _ k => Jvm.Free.XT.nonnullNo X55.here hx rfl (hb hby at_101) rfl rfl k) ?_
      refine own_stW (T' := T55) (g' := (mkF m 105 #[.val (.int g0), .val (.int g1), .val (.int g2), .val (.int g3), .val (.int g4), .val (.int z5), .val (.int z6), .val .null, .val (.ref ky), .val (.int (1 : Int32))] [(.int (1 : Int32)), (.int (1 : Int32))])) (fun _ k => XS.iconst X55.here hx rfl (hb hby at_104) k) ?_
      refine own_stW (T' := T55) (g' := (mkF m 109 #[.val (.int g0), .val (.int g1), .val (.int g2), .val (.int g3), .val (.int g4), .val (.int z5), .val (.int z6), .val .null, .val (.ref ky), .val (.int (1 : Int32))] [(.int (1 : Int32)), (.int (1 : Int32))])) (fun _ k => XS.goto X55.here hx rfl (pc0 := 105) (pc' := 109) rfl (hb hby at_105) (by decide) (by decide) k) ?_
      refine own_stW (T' := T55) (g' := (mkF m 112 #[.val (.int g0), .val (.int g1), .val (.int g2), .val (.int g3), .val (.int g4), .val (.int z5), .val (.int z6), .val .null, .val (.ref ky), .val (.int (1 : Int32))] [])) (fun _ k => XS.icmpNo X55.here hx rfl (hb hby at_109) rfl (Jvm.Free.XT.ii_ne_f rfl) k) ?_
      have SK := SK0.ext O.2
      have FK := FK0.ext O.2
      have EK := EK0.ext O.2
      obtain ⟨T56, X56, e56, st56⟩ := getS2 X55 hx hZ hown (host := "") (Or.inl (hw _ (List.mem_of_getElem? (i := 45) rfl))) Via.refl e55 SK (g := (mkF m 112 #[.val (.int g0), .val (.int g1), .val (.int g2), .val (.int g3), .val (.int g4), .val (.int z5), .val (.int z6), .val .null, .val (.ref ky), .val (.int (1 : Int32))] [])) rfl (hb hby at_112)
      refine own_stW (T' := T56) (g' := (mkF m 115 #[.val (.int g0), .val (.int g1), .val (.int g2), .val (.int g3), .val (.int g4), .val (.int z5), .val (.int z6), .val .null, .val (.ref ky), .val (.int (1 : Int32))] [(.ref aK)])) st56 ?_
      obtain ⟨cq57, kq57, q57a, q57b, q57c⟩ := isOf hZ e56 EK
      obtain ⟨vq57, _, ⟨T57, L57, k57, n57⟩, -, X57, ⟨Lc57, hQ57, l57, y57, z57⟩, st57⟩ := X56.virtualBack hx (y := (⟨"com/example/idiolect/idiolect/internal/mf2/Variant$Key", "isCatchAll", "()Z"⟩ : MethodName)) (z := (⟨"com/example/idiolect/idiolect/internal/mf2/Variant$Key", "isCatchAll", "()Z"⟩ : MethodName)) hown (mvT hZ (hw _ (List.mem_of_getElem? (i := 40) rfl))) (mvT hZ (hw _ (List.mem_of_getElem? (i := 41) rfl))) (notFace_of_selects (args := #[]) (mvT hZ (hw _ (List.mem_of_getElem? (i := 43) rfl)))) (mvT hZ (hw _ (List.mem_of_getElem? (i := 43) rfl))) (mvT hZ (hw _ (List.mem_of_getElem? (i := 42) rfl))) (by decide) (backOf (W := 0) (own_catch l Z a0 hw [] aK .null T54.heap n0 Z0'' rfl FK) hZ (hw _ (List.mem_of_getElem? (i := 44) rfl)) (hw _ (List.mem_of_getElem? (i := 28) rfl)) (by decide) (by decide)) q57a q57c (g := (mkF m 115 #[.val (.int g0), .val (.int g1), .val (.int g2), .val (.int g3), .val (.int g4), .val (.int z5), .val (.int z6), .val .null, .val (.ref ky), .val (.int (1 : Int32))] [(.ref aK)])) rfl (by rw [hml]; rfl) (Steps.refl _) (argsL := []) (rest := []) (lenOf own_pd8 rfl) rfl (by show 2 * 0 + _ ≤ _; exact Nat.le_of_eq rfl) (hb hby at_115) (fun _ _ => ⟨rfl, e56, (by decide : (((0 + 1) + 0) + 0) + 0 ≤ _), (by decide : (((0 + 1) + 0) + 0) + 0 ≤ _)⟩)
      dsimp only [Pt.U, Pt.locs, Pt.cells, Pt.slots] at X57 l57 y57 z57 st57 hQ57
      subst l57 y57 z57
      obtain ⟨hv, N57q, e57⟩ := hQ57
      rw [if_pos rfl] at hv
      subst hv
      have N0''' := Fr.app N0'' N57q
      refine own_trW (T' := T57) (g' := (mkF m 118 #[.val (.int g0), .val (.int g1), .val (.int g2), .val (.int g3), .val (.int g4), .val (.int z5), .val (.int z6), .val .null, .val (.ref ky), .val (.int (1 : Int32))] [(.int (1 : Int32))])) st57 ?_
      refine own_stW (T' := T57) (g' := (mkF m 121 #[.val (.int g0), .val (.int g1), .val (.int g2), .val (.int g3), .val (.int g4), .val (.int z5), .val (.int z6), .val .null, .val (.ref ky), .val (.int (1 : Int32))] [])) (fun _ k => XS.ifNo X57.here hx rfl (hb hby at_118) rfl (Jvm.Free.XT.i0_eq_f (by decide)) k) ?_
      refine own_stW (T' := T57) (g' := (mkF m 122 #[.val (.int g0), .val (.int g1), .val (.int g2), .val (.int g3), .val (.int g4), .val (.int z5), .val (.int z6), .val .null, .val (.ref ky), .val (.int (1 : Int32))] [(.int (1 : Int32))])) (fun _ k => XS.iconst X57.here hx rfl (hb hby at_121) k) ?_
      refine own_stW (T' := T57) (g' := (mkF m 126 #[.val (.int g0), .val (.int g1), .val (.int g2), .val (.int g3), .val (.int g4), .val (.int z5), .val (.int z6), .val .null, .val (.ref ky), .val (.int (1 : Int32))] [(.int (1 : Int32))])) (fun _ k => XS.goto X57.here hx rfl (pc0 := 122) (pc' := 126) rfl (hb hby at_122) (by decide) (by decide) k) ?_
      exact own_retNW X57 hS hx Bd.returns Bd.notSynchronized e57 hk0 (by simp) (hb hby at_126) ⟨rfl, N0'''⟩ (by decide) (by decide)
  by_cases qa : (g0 &&& (1 : Int32)) = (0 : Int32)
  · refine own_stW (T' := s₁) (g' := (mkF m 10 #[.val (.int g0), .val (.int g1), .val (.int g2), .val (.int g3), .val (.int g4), .unset, .unset, .unset, .unset, .unset] [])) (fun _ k => XS.ifYes X0.here hx rfl (pc0 := 3) (pc' := 10) rfl (hb hby at_3) rfl (Jvm.Free.XT.i0_eq_t qa) (by decide) (by decide) k) ?_
    refine own_stW (T' := s₁) (g' := (mkF m 11 #[.val (.int g0), .val (.int g1), .val (.int g2), .val (.int g3), .val (.int g4), .unset, .unset, .unset, .unset, .unset] [(.int (0 : Int32))])) (fun _ k => XS.iconst X0.here hx rfl (hb hby at_10) k) ?_
    refine own_stW (T' := s₁) (g' := (mkF m 13 #[.val (.int g0), .val (.int g1), .val (.int g2), .val (.int g3), .val (.int g4), .val (.int (0 : Int32)), .unset, .unset, .unset, .unset] [])) (fun _ k => XS.istore X0.here hx rfl (hb hby at_11) rfl (l' := #[.val (.int g0), .val (.int g1), .val (.int g2), .val (.int g3), .val (.int g4), .val (.int (0 : Int32)), .unset, .unset, .unset, .unset]) rfl k) ?_
    refine own_stW (T' := s₁) (g' := (mkF m 14 #[.val (.int g0), .val (.int g1), .val (.int g2), .val (.int g3), .val (.int g4), .val (.int (0 : Int32)), .unset, .unset, .unset, .unset] [(.int g0)])) (fun _ k => XS.iloadN X0.here hx rfl (hb hby at_13) rfl k) ?_
    refine own_stW (T' := s₁) (g' := (mkF m 15 #[.val (.int g0), .val (.int g1), .val (.int g2), .val (.int g3), .val (.int g4), .val (.int (0 : Int32)), .unset, .unset, .unset, .unset] [(.int (2 : Int32)), (.int g0)])) (fun _ k => XS.iconst X0.here hx rfl (hb hby at_14) k) ?_
    refine own_stW (T' := s₁) (g' := (mkF m 16 #[.val (.int g0), .val (.int g1), .val (.int g2), .val (.int g3), .val (.int g4), .val (.int (0 : Int32)), .unset, .unset, .unset, .unset] [(.int (g0 &&& (2 : Int32)))])) (fun _ k => XS.iand X0.here hx rfl (hb hby at_15) rfl k) ?_
    by_cases qb : (g0 &&& (2 : Int32)) = (0 : Int32)
    · refine own_stW (T' := s₁) (g' := (mkF m 23 #[.val (.int g0), .val (.int g1), .val (.int g2), .val (.int g3), .val (.int g4), .val (.int (0 : Int32)), .unset, .unset, .unset, .unset] [])) (fun _ k => XS.ifYes X0.here hx rfl (pc0 := 16) (pc' := 23) rfl (hb hby at_16) rfl (Jvm.Free.XT.i0_eq_t qb) (by decide) (by decide) k) ?_
      refine own_stW (T' := s₁) (g' := (mkF m 24 #[.val (.int g0), .val (.int g1), .val (.int g2), .val (.int g3), .val (.int g4), .val (.int (0 : Int32)), .unset, .unset, .unset, .unset] [(.int (0 : Int32))])) (fun _ k => XS.iconst X0.here hx rfl (hb hby at_23) k) ?_
      refine own_stW (T' := s₁) (g' := (mkF m 26 #[.val (.int g0), .val (.int g1), .val (.int g2), .val (.int g3), .val (.int g4), .val (.int (0 : Int32)), .val (.int (0 : Int32)), .unset, .unset, .unset] [])) (fun _ k => XS.istore X0.here hx rfl (hb hby at_24) rfl (l' := #[.val (.int g0), .val (.int g1), .val (.int g2), .val (.int g3), .val (.int g4), .val (.int (0 : Int32)), .val (.int (0 : Int32)), .unset, .unset, .unset]) rfl k) ?_
      exact J26 _ _
    · refine own_stW (T' := s₁) (g' := (mkF m 19 #[.val (.int g0), .val (.int g1), .val (.int g2), .val (.int g3), .val (.int g4), .val (.int (0 : Int32)), .unset, .unset, .unset, .unset] [])) (fun _ k => XS.ifNo X0.here hx rfl (hb hby at_16) rfl (Jvm.Free.XT.i0_eq_f qb) k) ?_
      refine own_stW (T' := s₁) (g' := (mkF m 20 #[.val (.int g0), .val (.int g1), .val (.int g2), .val (.int g3), .val (.int g4), .val (.int (0 : Int32)), .unset, .unset, .unset, .unset] [(.int (1 : Int32))])) (fun _ k => XS.iconst X0.here hx rfl (hb hby at_19) k) ?_
      refine own_stW (T' := s₁) (g' := (mkF m 24 #[.val (.int g0), .val (.int g1), .val (.int g2), .val (.int g3), .val (.int g4), .val (.int (0 : Int32)), .unset, .unset, .unset, .unset] [(.int (1 : Int32))])) (fun _ k => XS.goto X0.here hx rfl (pc0 := 20) (pc' := 24) rfl (hb hby at_20) (by decide) (by decide) k) ?_
      refine own_stW (T' := s₁) (g' := (mkF m 26 #[.val (.int g0), .val (.int g1), .val (.int g2), .val (.int g3), .val (.int g4), .val (.int (0 : Int32)), .val (.int (1 : Int32)), .unset, .unset, .unset] [])) (fun _ k => XS.istore X0.here hx rfl (hb hby at_24) rfl (l' := #[.val (.int g0), .val (.int g1), .val (.int g2), .val (.int g3), .val (.int g4), .val (.int (0 : Int32)), .val (.int (1 : Int32)), .unset, .unset, .unset]) rfl k) ?_
      exact J26 _ _
  · refine own_stW (T' := s₁) (g' := (mkF m 6 #[.val (.int g0), .val (.int g1), .val (.int g2), .val (.int g3), .val (.int g4), .unset, .unset, .unset, .unset, .unset] [])) (fun _ k => XS.ifNo X0.here hx rfl (hb hby at_3) rfl (Jvm.Free.XT.i0_eq_f qa) k) ?_
    refine own_stW (T' := s₁) (g' := (mkF m 7 #[.val (.int g0), .val (.int g1), .val (.int g2), .val (.int g3), .val (.int g4), .unset, .unset, .unset, .unset, .unset] [(.int (1 : Int32))])) (fun _ k => XS.iconst X0.here hx rfl (hb hby at_6) k) ?_
    refine own_stW (T' := s₁) (g' := (mkF m 11 #[.val (.int g0), .val (.int g1), .val (.int g2), .val (.int g3), .val (.int g4), .unset, .unset, .unset, .unset, .unset] [(.int (1 : Int32))])) (fun _ k => XS.goto X0.here hx rfl (pc0 := 7) (pc' := 11) rfl (hb hby at_7) (by decide) (by decide) k) ?_
    refine own_stW (T' := s₁) (g' := (mkF m 13 #[.val (.int g0), .val (.int g1), .val (.int g2), .val (.int g3), .val (.int g4), .val (.int (1 : Int32)), .unset, .unset, .unset, .unset] [])) (fun _ k => XS.istore X0.here hx rfl (hb hby at_11) rfl (l' := #[.val (.int g0), .val (.int g1), .val (.int g2), .val (.int g3), .val (.int g4), .val (.int (1 : Int32)), .unset, .unset, .unset, .unset]) rfl k) ?_
    refine own_stW (T' := s₁) (g' := (mkF m 14 #[.val (.int g0), .val (.int g1), .val (.int g2), .val (.int g3), .val (.int g4), .val (.int (1 : Int32)), .unset, .unset, .unset, .unset] [(.int g0)])) (fun _ k => XS.iloadN X0.here hx rfl (hb hby at_13) rfl k) ?_
    refine own_stW (T' := s₁) (g' := (mkF m 15 #[.val (.int g0), .val (.int g1), .val (.int g2), .val (.int g3), .val (.int g4), .val (.int (1 : Int32)), .unset, .unset, .unset, .unset] [(.int (2 : Int32)), (.int g0)])) (fun _ k => XS.iconst X0.here hx rfl (hb hby at_14) k) ?_
    refine own_stW (T' := s₁) (g' := (mkF m 16 #[.val (.int g0), .val (.int g1), .val (.int g2), .val (.int g3), .val (.int g4), .val (.int (1 : Int32)), .unset, .unset, .unset, .unset] [(.int (g0 &&& (2 : Int32)))])) (fun _ k => XS.iand X0.here hx rfl (hb hby at_15) rfl k) ?_
    by_cases qb : (g0 &&& (2 : Int32)) = (0 : Int32)
    · refine own_stW (T' := s₁) (g' := (mkF m 23 #[.val (.int g0), .val (.int g1), .val (.int g2), .val (.int g3), .val (.int g4), .val (.int (1 : Int32)), .unset, .unset, .unset, .unset] [])) (fun _ k => XS.ifYes X0.here hx rfl (pc0 := 16) (pc' := 23) rfl (hb hby at_16) rfl (Jvm.Free.XT.i0_eq_t qb) (by decide) (by decide) k) ?_
      refine own_stW (T' := s₁) (g' := (mkF m 24 #[.val (.int g0), .val (.int g1), .val (.int g2), .val (.int g3), .val (.int g4), .val (.int (1 : Int32)), .unset, .unset, .unset, .unset] [(.int (0 : Int32))])) (fun _ k => XS.iconst X0.here hx rfl (hb hby at_23) k) ?_
      refine own_stW (T' := s₁) (g' := (mkF m 26 #[.val (.int g0), .val (.int g1), .val (.int g2), .val (.int g3), .val (.int g4), .val (.int (1 : Int32)), .val (.int (0 : Int32)), .unset, .unset, .unset] [])) (fun _ k => XS.istore X0.here hx rfl (hb hby at_24) rfl (l' := #[.val (.int g0), .val (.int g1), .val (.int g2), .val (.int g3), .val (.int g4), .val (.int (1 : Int32)), .val (.int (0 : Int32)), .unset, .unset, .unset]) rfl k) ?_
      exact J26 _ _
    · refine own_stW (T' := s₁) (g' := (mkF m 19 #[.val (.int g0), .val (.int g1), .val (.int g2), .val (.int g3), .val (.int g4), .val (.int (1 : Int32)), .unset, .unset, .unset, .unset] [])) (fun _ k => XS.ifNo X0.here hx rfl (hb hby at_16) rfl (Jvm.Free.XT.i0_eq_f qb) k) ?_
      refine own_stW (T' := s₁) (g' := (mkF m 20 #[.val (.int g0), .val (.int g1), .val (.int g2), .val (.int g3), .val (.int g4), .val (.int (1 : Int32)), .unset, .unset, .unset, .unset] [(.int (1 : Int32))])) (fun _ k => XS.iconst X0.here hx rfl (hb hby at_19) k) ?_
      refine own_stW (T' := s₁) (g' := (mkF m 24 #[.val (.int g0), .val (.int g1), .val (.int g2), .val (.int g3), .val (.int g4), .val (.int (1 : Int32)), .unset, .unset, .unset, .unset] [(.int (1 : Int32))])) (fun _ k => XS.goto X0.here hx rfl (pc0 := 20) (pc' := 24) rfl (hb hby at_20) (by decide) (by decide) k) ?_
      refine own_stW (T' := s₁) (g' := (mkF m 26 #[.val (.int g0), .val (.int g1), .val (.int g2), .val (.int g3), .val (.int g4), .val (.int (1 : Int32)), .val (.int (1 : Int32)), .unset, .unset, .unset] [])) (fun _ k => XS.istore X0.here hx rfl (hb hby at_24) rfl (l' := #[.val (.int g0), .val (.int g1), .val (.int g2), .val (.int g3), .val (.int g4), .val (.int (1 : Int32)), .val (.int (1 : Int32)), .unset, .unset, .unset]) rfl k) ?_
      exact J26 _ _
set_option maxRecDepth 65536 in
set_option maxHeartbeats 40000000 in
theorem comes_1 {Post : Tables → Env → Array Value → State → Outcome → State → Prop} (hpost : ∀ tb e args s v u, (limb_1_1.after args s (.returned v) u = true ∧ limb_1_2.after args s (.returned v) u = true ∧ True) → ReturnedEndW s (.returned v) u (Jvm.fieldLocs frame_1_writes args s ++ Jvm.arrayLocs frame_1_arrays args s ++ Jvm.staticLocs frame_1_statics s) 24 1152 → Post tb e args s (.returned v) u) :
    ArmFor flags0 classFile x code maxLocals ret World_1 tables_1 room_1 Calls_1 rest_1 Pre_1 Post := by
  intro l hfl _ _ p e ha hc hk s m args below hf hA hF happ hP
  obtain ⟨hcalls, hrest, hpre⟩ := hP
  obtain ⟨-, -, -, hnamed, -, -, -, hat⟩ := (Spec.applies_iff hf).mp happ
  obtain ⟨hg, hn⟩ := and_e (Cond.before_iff.mp (show (Jvm.Cond.and given_1 narrow_1).before args s = true from hpre))
  obtain ⟨hcount, r0⟩ := and_e hg
  obtain ⟨hk0, r1⟩ := and_e r0
  obtain ⟨hk1, r2⟩ := and_e r1
  obtain ⟨hk2, r3⟩ := and_e r2
  obtain ⟨hk3, r4⟩ := and_e r3
  have hk4 := r4
  obtain ⟨w0, w1, w2, w3, w4, rfl⟩ : ∃ w0 w1 w2 w3 w4 : Value, args = #[w0, w1, w2, w3, w4] := by
    have hs : args.size = 5 := by simpa [Cond.value, given_1] using hcount
    obtain ⟨L⟩ := args
    match L, hs with
    | [w0, w1, w2, w3, w4], _ => exact ⟨w0, w1, w2, w3, w4, rfl⟩
  have hw := fun d (hd : d ∈ tables_1) => atoms_spec (ws := Jvm.Cond.code x code maxLocals ret :: tables_1) hat d (List.mem_cons_of_mem _ hd)
  have hfit : Fit s := fun {y c} hc i hi => by
    obtain ⟨ha, rfl⟩ := Array.getElem?_eq_some_iff.mp hc
    have q := List.all_eq_true.mp ((Array.all_eq_true_iff_forall_mem.mp hF) _ (Array.getElem_mem ha)) i (List.mem_range.mpr hi)
    simpa [Array.getElem?_eq_getElem hi] using q
  obtain ⟨hsets, hown0⟩ := atoms_of _ (rest_1_c_eq ▸ (show rest_1_c.before _ s = true from hrest))
  obtain ⟨i0, ei0⟩ := is_v hk0
  obtain rfl : w0 = (.int i0) := Option.some.inj ei0
  obtain ⟨i1, ei1⟩ := is_v hk1
  obtain rfl : w1 = (.int i1) := Option.some.inj ei1
  obtain ⟨i2, ei2⟩ := is_v hk2
  obtain rfl : w2 = (.int i2) := Option.some.inj ei2
  obtain ⟨i3, ei3⟩ := is_v hk3
  obtain rfl : w3 = (.int i3) := Option.some.inj ei3
  obtain ⟨i4, ei4⟩ := is_v hk4
  obtain rfl : w4 = (.int i4) := Option.some.inj ei4
  obtain ⟨cs, evC⟩ := is_v (Cond.before_iff.mp (hsets _ (List.mem_of_getElem? (i := 1) rfl)))
  have SC := Sta.start evC (Or.inl (hsets _ (List.mem_of_getElem? (i := 0) rfl)))
  have hcs : ¬ cs = (0 : Int32) := fun q => by
    have u := not_v (Cond.before_iff.mp (hsets _ (List.mem_of_getElem? (i := 2) rfl)))
    rw [q] at evC
    exact absurd u (by rw [eq_i evC (Term.int_eval 0) rfl]; decide)
  obtain ⟨nK, oK⟩ := and_e hn
  obtain ⟨aK, evK⟩ := exa_v nK
  have SK := Sta.start evK (Or.inr ⟨(hw _ (List.mem_of_getElem? (i := 28) rfl)), (hw _ (List.mem_of_getElem? (i := 46) rfl))⟩)
  have EK := Exa.start evK nK
  have FK := own_fldN evK oK
  obtain ⟨n, o, h1, h2, h3, _, L, rfl, ⟨rfl, N⟩, hq⟩ := own_law l s _ hw tables_1 i0 i1 i2 i3 i4 aK cs s.heap s.heap.size (Nat.le_refl _) (Old.start s) SC hcs SK EK FK p e ha hc hk s m _ below hf ((Spec.applies_iff_loose hf).mp happ).1 ⟨rfl, State.Warmed39.refl s, rfl, CHv.start (EW.cons (hw _ (List.mem_of_getElem? (i := 18) rfl)) (by decide) (EW.nil)) (fun p hp => hcalls.1 p hp) (hsets _ (List.mem_of_getElem? (i := 2) rfl)) (hw _ (List.mem_of_getElem? (i := 19) rfl)) (hw _ (List.mem_of_getElem? (i := 5) rfl))⟩ trivial
  refine ⟨n, _, h1, h2, h3, hpost _ _ _ _ _ _ ⟨Cond.after_iff.mpr rfl, Cond.after_iff.mpr (eq_i res_at (Term.int_eval (1)) rfl), trivial⟩ ⟨hq.1, hq.2.1, hq.2.2.1, (hq.2.2.2.sift fun y hy => Or.inr (N y hy)).mono (by decide) (by decide)⟩⟩
theorem main_1_1 : Claimed_1_1 := comes_1 fun _ _ _ _ _ _ h hF => ⟨h.1, hF⟩
theorem main_1_2 : Claimed_1_2 := comes_1 fun _ _ _ _ _ _ h hF => ⟨h.2.1, hF⟩
end Jvm.Pilot.@@N@@
namespace Jvm.Pilot.@@N@@
open Jvm Jvm.ClassFile Sem Op Lib Jvm.Free Jvm.Stand Jvm.Pilot.@@N@@.Jvm.D
/-! MADE BY PROGRAM (witnessworld.py) out of the Statement's table words and the real class files: 21 classes; the members and pool entries that the words name. The judged class is class 1, her method 2. -/
namespace start1
open Jvm.ClassFile
def u (s : String) : CpInfo := .utf8 (stringToUtf16 s)
/-- a pool by its gaps: so many unusable entries, then the entry; so many at the end -/
def gap : Nat → List CpInfo → List CpInfo
  | 0, r => r
  | n + 1, r => .unusable :: gap n r
def poolList (es : List (Nat × CpInfo)) (last : Nat) : List CpInfo := es.foldr (fun e r => gap e.1 (e.2 :: r)) (gap last [])
def pool (es : List (Nat × CpInfo)) (last : Nat) : Array CpInfo := ⟨poolList es last⟩
def fileOf (pool : Array CpInfo) (this : Nat) (attrs : Array Attribute := #[]) (ms : Array MethodInfo := #[]) (fl : Nat := 33) (sup : Nat := 0) (ifs : Array Nat := #[]) (fds : Array FieldInfo := #[]) : ClassFile where
  minorVersion := 0
  majorVersion := 65
  constantPool := pool
  accessFlags := fl
  thisClass := this
  superClass := sup
  interfaces := ifs
  fields := fds
  methods := ms
  attributes := attrs
def plain (name : String) (sup : Option ClassId) : Class where
  name := name
  kind := .ordinary
  loader := none
  accessFlags := 33
  super := sup
  interfaces := #[]
  cf := none
  fields := #[]
  methods := #[]
  instanceTypes := #[]
  staticTypes := #[]
  resolved := #[]
  callSites := []
  init := .initialized
  statics := none
  mirror := none

def pool0 : Array CpInfo := pool [(5, u "<init>"), (0, u "()V"), (1, .class_ 10), (1, u "java/lang/Object")] 113

def k0c0 : Code := { maxStack := 0, maxLocals := 1, code := object_method_1_code, exceptionTable := #[], attributes := #[] }
def k0m0 : Method := { name := "<init>", desc := "()V", sig := { parameters := [], returnType := none }, accessFlags := 1, code := some k0c0 }
/-- java/lang/Object -/
def k0 : Class := { plain "java/lang/Object" none with
  accessFlags := 33
  interfaces := #[]
  cf := some (fileOf pool0 8 #[] #[{ accessFlags := 1, nameIndex := 5, descriptorIndex := 6, attributes := #[] }] 33 0 #[] #[])
  fields := #[]
  methods := #[k0m0]
  instanceTypes := #[]
  staticTypes := #[]
  resolved := Array.replicate 124 none
  statics := none }

def pool1 : Array CpInfo := pool [(2, .class_ 4), (1, u "java/lang/Object"), (0, u "<init>"), (0, u "()V"), (0, .class_ 8), (0, u "java/lang/String"), (0, .methodref 7 10), (0, .nameAndType 5 11), (0, u "([C)V"), (0, .methodref 7 13), (0, .nameAndType 14 15), (0, u "valueOf"), (0, u "(C)Ljava/lang/String;"), (0, .methodref 17 18), (0, .class_ 19), (0, .nameAndType 20 21), (0, u "com/example/idiolect/idiolect/internal/mf2/KeyIsCatchAllPinLaw"), (0, u "draw"), (0, u "(ICCC)Ljava/lang/String;"), (0, .class_ 23), (0, u "com/example/idiolect/idiolect/internal/mf2/Variant$Key"), (0, .methodref 22 25), (0, .nameAndType 5 26), (0, u "(Ljava/lang/String;)V"), (0, .methodref 22 28), (0, .nameAndType 29 30), (0, u "isCatchAll"), (0, u "()Z"), (0, .fieldref 22 32), (0, .nameAndType 33 34), (0, u "CATCH_ALL"), (0, u "Lcom/example/idiolect/idiolect/internal/mf2/Variant$Key;"), (3, u "law"), (0, u "(IIIII)Z")] 6

def k1m0 : Method := { name := "<init>", desc := "()V", sig := { parameters := [], returnType := none }, accessFlags := 1, code := none }
def k1c1 : Code := { maxStack := 6, maxLocals := 4, code := method_2_code, exceptionTable := #[], attributes := #[] }
def k1m1 : Method := { name := "draw", desc := "(ICCC)Ljava/lang/String;", sig := { parameters := [.int, .char, .char, .char], returnType := some (.object "java/lang/String") }, accessFlags := 10, code := some k1c1 }
def k1c2 : Code := { maxStack := 5, maxLocals := 10, code := code, exceptionTable := #[], attributes := #[] }
def k1m2 : Method := { name := "law", desc := "(IIIII)Z", sig := { parameters := [.int, .int, .int, .int, .int], returnType := some .boolean }, accessFlags := 9, code := some k1c2 }
/-- com/example/idiolect/idiolect/internal/mf2/KeyIsCatchAllPinLaw -/
def k1 : Class := { plain "com/example/idiolect/idiolect/internal/mf2/KeyIsCatchAllPinLaw" (some 0) with
  accessFlags := 49
  interfaces := #[]
  cf := some (fileOf pool1 17 #[] #[{ accessFlags := 1, nameIndex := 5, descriptorIndex := 6, attributes := #[] }, { accessFlags := 10, nameIndex := 20, descriptorIndex := 21, attributes := #[] }, { accessFlags := 9, nameIndex := 38, descriptorIndex := 39, attributes := #[] }] 49 2 #[] #[])
  fields := #[]
  methods := #[k1m0, k1m1, k1m2]
  instanceTypes := #[]
  staticTypes := #[]
  resolved := Array.replicate 46 none
  statics := none }

def pool2 : Array CpInfo := pool [(1, .class_ 2), (0, u "java/io/Serializable"), (0, .class_ 4), (0, u "java/lang/Object")] 2

/-- java/io/Serializable -/
def k2 : Class := { plain "java/io/Serializable" (some 0) with
  accessFlags := 1537
  interfaces := #[]
  cf := some (fileOf pool2 1 #[] #[] 1537 3 #[] #[])
  fields := #[]
  methods := #[]
  instanceTypes := #[]
  staticTypes := #[]
  resolved := Array.replicate 7 none
  statics := none }

def pool3 : Array CpInfo := pool [(1, .class_ 2), (0, u "java/lang/Comparable"), (0, .class_ 4), (0, u "java/lang/Object")] 7

/-- java/lang/Comparable -/
def k3 : Class := { plain "java/lang/Comparable" (some 0) with
  accessFlags := 1537
  interfaces := #[]
  cf := some (fileOf pool3 1 #[] #[] 1537 3 #[] #[])
  fields := #[]
  methods := #[]
  instanceTypes := #[]
  staticTypes := #[]
  resolved := Array.replicate 12 none
  statics := none }

def pool4 : Array CpInfo := pool [(2, .class_ 4), (1, u "java/lang/CharSequence"), (42, .class_ 48), (0, u "java/lang/CharSequence$1CodePointIterator"), (10, .class_ 60), (0, u "java/lang/CharSequence$1CharIterator"), (5, .class_ 67), (0, u "java/lang/Object")] 63

/-- java/lang/CharSequence -/
def k4 : Class := { plain "java/lang/CharSequence" (some 0) with
  accessFlags := 1537
  interfaces := #[]
  cf := some (fileOf pool4 2 #[.nestMembers #[47, 59]] #[] 1537 66 #[] #[])
  fields := #[]
  methods := #[]
  instanceTypes := #[]
  staticTypes := #[]
  resolved := Array.replicate 131 none
  statics := none }

def pool5 : Array CpInfo := pool [(1, .class_ 2), (0, u "java/lang/constant/Constable"), (0, .class_ 4), (0, u "java/lang/Object")] 6

/-- java/lang/constant/Constable -/
def k5 : Class := { plain "java/lang/constant/Constable" (some 0) with
  accessFlags := 1537
  interfaces := #[]
  cf := some (fileOf pool5 1 #[] #[] 1537 3 #[] #[])
  fields := #[]
  methods := #[]
  instanceTypes := #[]
  staticTypes := #[]
  resolved := Array.replicate 11 none
  statics := none }

def pool6 : Array CpInfo := pool [(1, .class_ 2), (0, u "java/lang/constant/ConstantDesc"), (0, .class_ 4), (0, u "java/lang/Object")] 32

/-- java/lang/constant/ConstantDesc -/
def k6 : Class := { plain "java/lang/constant/ConstantDesc" (some 0) with
  accessFlags := 1537
  interfaces := #[]
  cf := some (fileOf pool6 1 #[] #[] 1537 3 #[] #[])
  fields := #[]
  methods := #[]
  instanceTypes := #[]
  staticTypes := #[]
  resolved := Array.replicate 37 none
  statics := none }

def pool7 : Array CpInfo := pool [(1, .methodref 2 3), (0, .class_ 4), (0, .nameAndType 5 6), (0, u "java/lang/Object"), (0, u "<init>"), (0, u "()V"), (0, .string 8), (0, u ""), (0, .fieldref 10 11), (0, .class_ 12), (0, .nameAndType 13 14), (0, u "java/lang/String"), (0, u "value"), (0, u "[B"), (0, .fieldref 10 16), (0, .nameAndType 17 18), (0, u "coder"), (0, u "B"), (2, u "hash"), (0, u "I"), (2, u "hashIsZero"), (0, u "Z"), (0, .methodref 10 28), (0, .nameAndType 5 29), (0, u "([CIILjava/lang/Void;)V"), (8, .fieldref 10 39), (0, .nameAndType 40 26), (0, u "COMPACT_STRINGS"), (1, .class_ 44), (1, u "java/lang/StringUTF16"), (0, u "compress"), (1, .methodref 42 48), (0, .nameAndType 49 50), (0, u "coderFromArrayLen"), (0, u "([BI)B"), (2, u "toBytes"), (53, .class_ 109), (1, u "java/lang/StringLatin1"), (67, .methodref 42 178), (0, .nameAndType 45 179), (0, u "([CII)[B"), (29, .methodref 10 210), (0, .nameAndType 5 211), (0, u "([BB)V"), (157, u "(C)Z"), (205, .class_ 576), (0, u "java/lang/CharSequence"), (22, u "CASE_INSENSITIVE_ORDER"), (0, u "Ljava/util/Comparator;"), (181, u "valueOf"), (0, u "(C)Ljava/lang/String;"), (226, u "([C)V"), (4, .methodref 107 1016), (0, .nameAndType 1017 369), (0, u "canEncode"), (0, .methodref 107 1019), (0, .nameAndType 53 1020), (0, u "(C)[B"), (80, u "serialPersistentFields"), (0, u "[Ljava/io/ObjectStreamField;"), (0, .class_ 1104), (0, u "java/lang/String$CaseInsensitiveComparator"), (1, .class_ 1107), (0, u "java/io/Serializable"), (0, .class_ 1109), (0, u "java/lang/Comparable"), (0, .class_ 1111), (0, u "java/lang/constant/Constable"), (0, .class_ 1113), (0, u "java/lang/constant/ConstantDesc"), (2, u "serialVersionUID"), (0, u "J"), (3, u "REPL"), (0, u "C"), (2, u "LATIN1"), (1, u "UTF16")] 323

def k7m0 : Method := { name := "<init>", desc := "()V", sig := { parameters := [], returnType := none }, accessFlags := 1, code := none }
def k7c1 : Code := { maxStack := 5, maxLocals := 2, code := jdk_42_method_3_code, exceptionTable := #[], attributes := #[] }
def k7m1 : Method := { name := "<init>", desc := "([C)V", sig := { parameters := [(.array .char)], returnType := none }, accessFlags := 1, code := some k7c1 }
def k7c2 : Code := { maxStack := 4, maxLocals := 1, code := jdk_42_method_139_code, exceptionTable := #[], attributes := #[] }
def k7m2 : Method := { name := "valueOf", desc := "(C)Ljava/lang/String;", sig := { parameters := [.char], returnType := some (.object "java/lang/String") }, accessFlags := 9, code := some k7c2 }
def k7c3 : Code := { maxStack := 4, maxLocals := 6, code := jdk_42_method_149_code, exceptionTable := #[], attributes := #[] }
def k7m3 : Method := { name := "<init>", desc := "([CIILjava/lang/Void;)V", sig := { parameters := [(.array .char), .int, .int, (.object "java/lang/Void")], returnType := none }, accessFlags := 2, code := some k7c3 }
def k7c4 : Code := { maxStack := 2, maxLocals := 3, code := jdk_42_method_151_code, exceptionTable := #[], attributes := #[] }
def k7m4 : Method := { name := "<init>", desc := "([BB)V", sig := { parameters := [(.array .byte), .byte], returnType := none }, accessFlags := 0, code := some k7c4 }
/-- java/lang/String -/
def k7 : Class := { plain "java/lang/String" (some 0) with
  accessFlags := 49
  interfaces := #[2, 3, 4, 5, 6]
  cf := some (fileOf pool7 10 #[.nestMembers #[1103]] #[{ accessFlags := 1, nameIndex := 5, descriptorIndex := 6, attributes := #[] }, { accessFlags := 1, nameIndex := 5, descriptorIndex := 1010, attributes := #[] }, { accessFlags := 9, nameIndex := 782, descriptorIndex := 783, attributes := #[] }, { accessFlags := 2, nameIndex := 5, descriptorIndex := 29, attributes := #[] }, { accessFlags := 0, nameIndex := 5, descriptorIndex := 211, attributes := #[] }] 49 2 #[1106, 1108, 575, 1110, 1112] #[{ accessFlags := 18, nameIndex := 13, descriptorIndex := 14, attributes := #[] }, { accessFlags := 18, nameIndex := 17, descriptorIndex := 18, attributes := #[] }, { accessFlags := 2, nameIndex := 21, descriptorIndex := 22, attributes := #[] }, { accessFlags := 2, nameIndex := 25, descriptorIndex := 26, attributes := #[] }, { accessFlags := 26, nameIndex := 1116, descriptorIndex := 1117, attributes := #[] }, { accessFlags := 24, nameIndex := 40, descriptorIndex := 26, attributes := #[] }, { accessFlags := 26, nameIndex := 1101, descriptorIndex := 1102, attributes := #[] }, { accessFlags := 26, nameIndex := 1121, descriptorIndex := 1122, attributes := #[] }, { accessFlags := 25, nameIndex := 599, descriptorIndex := 600, attributes := #[] }, { accessFlags := 24, nameIndex := 1125, descriptorIndex := 18, attributes := #[] }, { accessFlags := 24, nameIndex := 1127, descriptorIndex := 18, attributes := #[] }])
  fields := #[{ name := "value", type := (.array .byte), accessFlags := 18, slot := 0, constantValue := 0 }, { name := "coder", type := .byte, accessFlags := 18, slot := 1, constantValue := 0 }, { name := "hash", type := .int, accessFlags := 2, slot := 2, constantValue := 0 }, { name := "hashIsZero", type := .boolean, accessFlags := 2, slot := 3, constantValue := 0 }, { name := "serialVersionUID", type := .long, accessFlags := 26, slot := 0, constantValue := 0 }, { name := "COMPACT_STRINGS", type := .boolean, accessFlags := 24, slot := 1, constantValue := 0 }, { name := "serialPersistentFields", type := (.array (.object "java/io/ObjectStreamField")), accessFlags := 26, slot := 2, constantValue := 0 }, { name := "REPL", type := .char, accessFlags := 26, slot := 3, constantValue := 0 }, { name := "CASE_INSENSITIVE_ORDER", type := (.object "java/util/Comparator"), accessFlags := 25, slot := 4, constantValue := 0 }, { name := "LATIN1", type := .byte, accessFlags := 24, slot := 5, constantValue := 0 }, { name := "UTF16", type := .byte, accessFlags := 24, slot := 6, constantValue := 0 }]
  methods := #[k7m0, k7m1, k7m2, k7m3, k7m4]
  instanceTypes := #[(.array .byte), .byte, .int, .boolean]
  staticTypes := #[.long, .boolean, (.array (.object "java/io/ObjectStreamField")), .char, (.object "java/util/Comparator"), .byte, .byte]
  resolved := Array.replicate 1451 none
  statics := some 0 }

def pool8 : Array CpInfo := pool [(1, .methodref 2 3), (0, .class_ 4), (0, .nameAndType 5 6), (0, u "java/lang/Object"), (0, u "<init>"), (0, u "()V"), (0, .class_ 8), (0, u "java/lang/Record")] 13

def k8c0 : Code := { maxStack := 1, maxLocals := 1, code := jdk_30_method_1_code, exceptionTable := #[], attributes := #[] }
def k8m0 : Method := { name := "<init>", desc := "()V", sig := { parameters := [], returnType := none }, accessFlags := 4, code := some k8c0 }
/-- java/lang/Record -/
def k8 : Class := { plain "java/lang/Record" (some 0) with
  accessFlags := 1057
  interfaces := #[]
  cf := some (fileOf pool8 7 #[] #[{ accessFlags := 4, nameIndex := 5, descriptorIndex := 6, attributes := #[] }] 1057 2 #[] #[])
  fields := #[]
  methods := #[k8m0]
  instanceTypes := #[]
  staticTypes := #[]
  resolved := Array.replicate 22 none
  statics := none }

def pool9 : Array CpInfo := pool [(1, .methodref 2 3), (0, .class_ 4), (0, .nameAndType 5 6), (0, u "java/lang/Record"), (0, u "<init>"), (0, u "()V"), (0, .fieldref 8 9), (0, .class_ 10), (0, .nameAndType 11 12), (0, u "com/example/idiolect/idiolect/internal/mf2/Variant$Key"), (0, u "value"), (0, u "Ljava/lang/String;"), (14, u "(Ljava/lang/String;)V"), (2, u "CATCH_ALL"), (0, u "Lcom/example/idiolect/idiolect/internal/mf2/Variant$Key;"), (3, u "isCatchAll"), (0, u "()Z"), (8, .class_ 46), (0, u "com/example/idiolect/idiolect/internal/mf2/Variant")] 18

def k9c0 : Code := { maxStack := 2, maxLocals := 2, code := prog_118_method_1_code, exceptionTable := #[], attributes := #[] }
def k9m0 : Method := { name := "<init>", desc := "(Ljava/lang/String;)V", sig := { parameters := [(.object "java/lang/String")], returnType := none }, accessFlags := 1, code := some k9c0 }
def k9c1 : Code := { maxStack := 1, maxLocals := 1, code := prog_118_method_2_code, exceptionTable := #[], attributes := #[] }
def k9m1 : Method := { name := "isCatchAll", desc := "()Z", sig := { parameters := [], returnType := some .boolean }, accessFlags := 1, code := some k9c1 }
/-- com/example/idiolect/idiolect/internal/mf2/Variant$Key -/
def k9 : Class := { plain "com/example/idiolect/idiolect/internal/mf2/Variant$Key" (some 8) with
  accessFlags := 49
  interfaces := #[]
  cf := some (fileOf pool9 8 #[.nestHost 45] #[{ accessFlags := 1, nameIndex := 5, descriptorIndex := 27, attributes := #[] }, { accessFlags := 1, nameIndex := 35, descriptorIndex := 36, attributes := #[] }] 49 2 #[] #[{ accessFlags := 18, nameIndex := 11, descriptorIndex := 12, attributes := #[] }, { accessFlags := 25, nameIndex := 30, descriptorIndex := 31, attributes := #[] }])
  fields := #[{ name := "value", type := (.object "java/lang/String"), accessFlags := 18, slot := 0, constantValue := 0 }, { name := "CATCH_ALL", type := (.object "com/example/idiolect/idiolect/internal/mf2/Variant$Key"), accessFlags := 25, slot := 0, constantValue := 0 }]
  methods := #[k9m0, k9m1]
  instanceTypes := #[(.object "java/lang/String")]
  staticTypes := #[(.object "com/example/idiolect/idiolect/internal/mf2/Variant$Key")]
  resolved := Array.replicate 65 none
  statics := some 1 }

def pool10 : Array CpInfo := pool [(6, .class_ 8), (1, u "java/lang/Object"), (0, u "<init>"), (0, u "()V"), (1, .class_ 14), (1, u "java/lang/StringUTF16"), (31, u "$assertionsDisabled"), (0, u "Z"), (13, u "HI_BYTE_SHIFT"), (0, u "I"), (2, u "LO_BYTE_SHIFT"), (49, .methodref 12 116), (0, .nameAndType 117 118), (0, u "compress"), (0, u "([CI[BII)I"), (3, u "([CII)[B"), (138, u "coderFromArrayLen"), (0, u "([BI)B"), (106, .class_ 371), (1, u "java/lang/StringUTF16$LinesSpliterator"), (58, u "MAX_LENGTH"), (196, .class_ 628), (0, u "java/lang/StringUTF16$CodePointsSpliterator"), (0, .class_ 630), (0, u "java/lang/StringUTF16$CharsSpliterator")] 4

def k10m0 : Method := { name := "<init>", desc := "()V", sig := { parameters := [], returnType := none }, accessFlags := 0, code := none }
def k10c1 : Code := { maxStack := 2, maxLocals := 2, code := jdk_52_method_15_code, exceptionTable := #[], attributes := #[] }
def k10m1 : Method := { name := "coderFromArrayLen", desc := "([BI)B", sig := { parameters := [(.array .byte), .int], returnType := some .byte }, accessFlags := 8, code := some k10c1 }
def k10c2 : Code := { maxStack := 5, maxLocals := 6, code := jdk_52_method_16_code, exceptionTable := #[], attributes := #[] }
def k10m2 : Method := { name := "compress", desc := "([CII)[B", sig := { parameters := [(.array .char), .int, .int], returnType := some (.array .byte) }, accessFlags := 9, code := some k10c2 }
def k10c3 : Code := { maxStack := 3, maxLocals := 7, code := jdk_52_method_21_code, exceptionTable := #[], attributes := #[] }
def k10m3 : Method := { name := "compress", desc := "([CI[BII)I", sig := { parameters := [(.array .char), .int, (.array .byte), .int, .int], returnType := some .int }, accessFlags := 9, code := some k10c3 }
/-- java/lang/StringUTF16 -/
def k10 : Class := { plain "java/lang/StringUTF16" (some 0) with
  accessFlags := 48
  interfaces := #[]
  cf := some (fileOf pool10 12 #[.nestMembers #[627, 629, 369]] #[{ accessFlags := 0, nameIndex := 9, descriptorIndex := 10, attributes := #[] }, { accessFlags := 8, nameIndex := 261, descriptorIndex := 262, attributes := #[] }, { accessFlags := 9, nameIndex := 117, descriptorIndex := 122, attributes := #[] }, { accessFlags := 9, nameIndex := 117, descriptorIndex := 118, attributes := #[] }] 48 6 #[] #[{ accessFlags := 26, nameIndex := 61, descriptorIndex := 62, attributes := #[] }, { accessFlags := 26, nameIndex := 65, descriptorIndex := 62, attributes := #[] }, { accessFlags := 24, nameIndex := 430, descriptorIndex := 62, attributes := #[] }, { accessFlags := 4120, nameIndex := 46, descriptorIndex := 47, attributes := #[] }])
  fields := #[{ name := "HI_BYTE_SHIFT", type := .int, accessFlags := 26, slot := 0, constantValue := 0 }, { name := "LO_BYTE_SHIFT", type := .int, accessFlags := 26, slot := 1, constantValue := 0 }, { name := "MAX_LENGTH", type := .int, accessFlags := 24, slot := 2, constantValue := 0 }, { name := "$assertionsDisabled", type := .boolean, accessFlags := 4120, slot := 3, constantValue := 0 }]
  methods := #[k10m0, k10m1, k10m2, k10m3]
  instanceTypes := #[]
  staticTypes := #[.int, .int, .int, .boolean]
  resolved := Array.replicate 635 none
  statics := none }

def pool11 : Array CpInfo := pool [(4, .class_ 6), (1, u "java/lang/Object"), (0, u "<init>"), (0, u "()V"), (5, .class_ 16), (1, u "java/lang/StringLatin1"), (73, u "canEncode"), (14, u "(C)Z"), (15, u "$assertionsDisabled"), (0, u "Z"), (98, .class_ 223), (1, u "java/lang/StringLatin1$LinesSpliterator"), (156, u "toBytes"), (1, u "(C)[B"), (7, .class_ 391), (0, u "java/lang/StringLatin1$CharsSpliterator")] 3

def k11m0 : Method := { name := "<init>", desc := "()V", sig := { parameters := [], returnType := none }, accessFlags := 0, code := none }
def k11c1 : Code := { maxStack := 2, maxLocals := 1, code := jdk_43_method_3_code, exceptionTable := #[], attributes := #[] }
def k11m1 : Method := { name := "canEncode", desc := "(C)Z", sig := { parameters := [.char], returnType := some .boolean }, accessFlags := 9, code := some k11c1 }
def k11c2 : Code := { maxStack := 4, maxLocals := 1, code := jdk_43_method_46_code, exceptionTable := #[], attributes := #[] }
def k11m2 : Method := { name := "toBytes", desc := "(C)[B", sig := { parameters := [.char], returnType := some (.array .byte) }, accessFlags := 9, code := some k11c2 }
/-- java/lang/StringLatin1 -/
def k11 : Class := { plain "java/lang/StringLatin1" (some 0) with
  accessFlags := 48
  interfaces := #[]
  cf := some (fileOf pool11 14 #[.nestMembers #[390, 221]] #[{ accessFlags := 0, nameIndex := 7, descriptorIndex := 8, attributes := #[] }, { accessFlags := 9, nameIndex := 90, descriptorIndex := 105, attributes := #[] }, { accessFlags := 9, nameIndex := 380, descriptorIndex := 382, attributes := #[] }] 48 4 #[] #[{ accessFlags := 4120, nameIndex := 121, descriptorIndex := 122, attributes := #[] }])
  fields := #[{ name := "$assertionsDisabled", type := .boolean, accessFlags := 4120, slot := 0, constantValue := 0 }]
  methods := #[k11m0, k11m1, k11m2]
  instanceTypes := #[]
  staticTypes := #[.boolean]
  resolved := Array.replicate 395 none
  statics := none }

def pool12 : Array CpInfo := pool [(2, .class_ 4), (1, u "java/lang/Object"), (0, u "<init>"), (0, u "()V"), (17, .class_ 26), (1, u "jdk/internal/util/Preconditions"), (28, .class_ 56), (0, u "jdk/internal/util/Preconditions$4"), (57, .class_ 115), (0, u "jdk/internal/util/Preconditions$1"), (7, u "SIOOBE_FORMATTER"), (0, u "Ljava/util/function/BiFunction;"), (0, .class_ 126), (0, u "jdk/internal/util/Preconditions$2"), (3, u "AIOOBE_FORMATTER"), (0, .class_ 132), (0, u "jdk/internal/util/Preconditions$3"), (3, u "IOOBE_FORMATTER")] 57

def k12m0 : Method := { name := "<init>", desc := "()V", sig := { parameters := [], returnType := none }, accessFlags := 1, code := none }
/-- jdk/internal/util/Preconditions -/
def k12 : Class := { plain "jdk/internal/util/Preconditions" (some 0) with
  accessFlags := 33
  interfaces := #[]
  cf := some (fileOf pool12 24 #[.nestMembers #[55, 131, 125, 114]] #[{ accessFlags := 1, nameIndex := 5, descriptorIndex := 6, attributes := #[] }] 33 2 #[] #[{ accessFlags := 25, nameIndex := 123, descriptorIndex := 124, attributes := #[] }, { accessFlags := 25, nameIndex := 130, descriptorIndex := 124, attributes := #[] }, { accessFlags := 25, nameIndex := 136, descriptorIndex := 124, attributes := #[] }])
  fields := #[{ name := "SIOOBE_FORMATTER", type := (.object "java/util/function/BiFunction"), accessFlags := 25, slot := 0, constantValue := 0 }, { name := "AIOOBE_FORMATTER", type := (.object "java/util/function/BiFunction"), accessFlags := 25, slot := 1, constantValue := 0 }, { name := "IOOBE_FORMATTER", type := (.object "java/util/function/BiFunction"), accessFlags := 25, slot := 2, constantValue := 0 }]
  methods := #[k12m0]
  instanceTypes := #[]
  staticTypes := #[(.object "java/util/function/BiFunction"), (.object "java/util/function/BiFunction"), (.object "java/util/function/BiFunction")]
  resolved := Array.replicate 194 none
  statics := some 2 }

def pool13 : Array CpInfo := pool [(9, u "<init>"), (6, .class_ 18), (1, u "java/lang/Object"), (0, u "()V"), (1, .class_ 23), (1, u "jdk/internal/util/ArraysSupport"), (0, u "LOG2_ARRAY_LONG_INDEX_SCALE"), (0, u "I"), (2, u "U"), (0, u "Ljdk/internal/misc/Unsafe;"), (8, u "BIG_ENDIAN"), (0, u "Z"), (8, u "LOG2_BYTE_BIT_SIZE"), (4, u "LOG2_ARRAY_INT_INDEX_SCALE"), (54, u "JLA"), (0, u "Ljdk/internal/access/JavaLangAccess;"), (11, u "LOG2_ARRAY_BOOLEAN_INDEX_SCALE"), (9, u "LOG2_ARRAY_BYTE_INDEX_SCALE"), (5, u "LOG2_ARRAY_CHAR_INDEX_SCALE"), (5, u "LOG2_ARRAY_SHORT_INDEX_SCALE"), (18, u "LOG2_ARRAY_FLOAT_INDEX_SCALE"), (24, u "LOG2_ARRAY_DOUBLE_INDEX_SCALE"), (89, u "T_BOOLEAN"), (2, u "T_CHAR"), (1, u "T_FLOAT"), (1, u "T_DOUBLE"), (1, u "T_BYTE"), (1, u "T_SHORT"), (1, u "T_INT"), (1, u "T_LONG"), (1, u "SOFT_MAX_ARRAY_LENGTH")] 83

def k13m0 : Method := { name := "<init>", desc := "()V", sig := { parameters := [], returnType := none }, accessFlags := 2, code := none }
/-- jdk/internal/util/ArraysSupport -/
def k13 : Class := { plain "jdk/internal/util/ArraysSupport" (some 0) with
  accessFlags := 33
  interfaces := #[]
  cf := some (fileOf pool13 21 #[] #[{ accessFlags := 2, nameIndex := 9, descriptorIndex := 19, attributes := #[] }] 33 16 #[] #[{ accessFlags := 24, nameIndex := 28, descriptorIndex := 29, attributes := #[] }, { accessFlags := 26, nameIndex := 38, descriptorIndex := 39, attributes := #[] }, { accessFlags := 25, nameIndex := 121, descriptorIndex := 25, attributes := #[] }, { accessFlags := 25, nameIndex := 131, descriptorIndex := 25, attributes := #[] }, { accessFlags := 25, nameIndex := 137, descriptorIndex := 25, attributes := #[] }, { accessFlags := 25, nameIndex := 143, descriptorIndex := 25, attributes := #[] }, { accessFlags := 25, nameIndex := 53, descriptorIndex := 25, attributes := #[] }, { accessFlags := 25, nameIndex := 24, descriptorIndex := 25, attributes := #[] }, { accessFlags := 25, nameIndex := 162, descriptorIndex := 25, attributes := #[] }, { accessFlags := 25, nameIndex := 187, descriptorIndex := 25, attributes := #[] }, { accessFlags := 26, nameIndex := 48, descriptorIndex := 25, attributes := #[] }, { accessFlags := 25, nameIndex := 277, descriptorIndex := 25, attributes := #[] }, { accessFlags := 25, nameIndex := 280, descriptorIndex := 25, attributes := #[] }, { accessFlags := 25, nameIndex := 282, descriptorIndex := 25, attributes := #[] }, { accessFlags := 25, nameIndex := 284, descriptorIndex := 25, attributes := #[] }, { accessFlags := 25, nameIndex := 286, descriptorIndex := 25, attributes := #[] }, { accessFlags := 25, nameIndex := 288, descriptorIndex := 25, attributes := #[] }, { accessFlags := 25, nameIndex := 290, descriptorIndex := 25, attributes := #[] }, { accessFlags := 25, nameIndex := 292, descriptorIndex := 25, attributes := #[] }, { accessFlags := 26, nameIndex := 108, descriptorIndex := 109, attributes := #[] }, { accessFlags := 25, nameIndex := 294, descriptorIndex := 25, attributes := #[] }])
  fields := #[{ name := "U", type := (.object "jdk/internal/misc/Unsafe"), accessFlags := 24, slot := 0, constantValue := 0 }, { name := "BIG_ENDIAN", type := .boolean, accessFlags := 26, slot := 1, constantValue := 0 }, { name := "LOG2_ARRAY_BOOLEAN_INDEX_SCALE", type := .int, accessFlags := 25, slot := 2, constantValue := 0 }, { name := "LOG2_ARRAY_BYTE_INDEX_SCALE", type := .int, accessFlags := 25, slot := 3, constantValue := 0 }, { name := "LOG2_ARRAY_CHAR_INDEX_SCALE", type := .int, accessFlags := 25, slot := 4, constantValue := 0 }, { name := "LOG2_ARRAY_SHORT_INDEX_SCALE", type := .int, accessFlags := 25, slot := 5, constantValue := 0 }, { name := "LOG2_ARRAY_INT_INDEX_SCALE", type := .int, accessFlags := 25, slot := 6, constantValue := 0 }, { name := "LOG2_ARRAY_LONG_INDEX_SCALE", type := .int, accessFlags := 25, slot := 7, constantValue := 0 }, { name := "LOG2_ARRAY_FLOAT_INDEX_SCALE", type := .int, accessFlags := 25, slot := 8, constantValue := 0 }, { name := "LOG2_ARRAY_DOUBLE_INDEX_SCALE", type := .int, accessFlags := 25, slot := 9, constantValue := 0 }, { name := "LOG2_BYTE_BIT_SIZE", type := .int, accessFlags := 26, slot := 10, constantValue := 0 }, { name := "T_BOOLEAN", type := .int, accessFlags := 25, slot := 11, constantValue := 0 }, { name := "T_CHAR", type := .int, accessFlags := 25, slot := 12, constantValue := 0 }, { name := "T_FLOAT", type := .int, accessFlags := 25, slot := 13, constantValue := 0 }, { name := "T_DOUBLE", type := .int, accessFlags := 25, slot := 14, constantValue := 0 }, { name := "T_BYTE", type := .int, accessFlags := 25, slot := 15, constantValue := 0 }, { name := "T_SHORT", type := .int, accessFlags := 25, slot := 16, constantValue := 0 }, { name := "T_INT", type := .int, accessFlags := 25, slot := 17, constantValue := 0 }, { name := "T_LONG", type := .int, accessFlags := 25, slot := 18, constantValue := 0 }, { name := "JLA", type := (.object "jdk/internal/access/JavaLangAccess"), accessFlags := 26, slot := 19, constantValue := 0 }, { name := "SOFT_MAX_ARRAY_LENGTH", type := .int, accessFlags := 25, slot := 20, constantValue := 0 }]
  methods := #[k13m0]
  instanceTypes := #[]
  staticTypes := #[(.object "jdk/internal/misc/Unsafe"), .boolean, .int, .int, .int, .int, .int, .int, .int, .int, .int, .int, .int, .int, .int, .int, .int, .int, .int, (.object "jdk/internal/access/JavaLangAccess"), .int]
  resolved := Array.replicate 378 none
  statics := none }

def pool14 : Array CpInfo := pool [(1, u "java/lang/Cloneable"), (0, .class_ 1), (0, u "java/lang/Object"), (0, .class_ 3)] 3

/-- java/lang/Cloneable -/
def k14 : Class := { plain "java/lang/Cloneable" (some 0) with
  accessFlags := 1537
  interfaces := #[]
  cf := some (fileOf pool14 2 #[] #[] 1537 4 #[] #[])
  fields := #[]
  methods := #[]
  instanceTypes := #[]
  staticTypes := #[]
  resolved := Array.replicate 8 none
  statics := none }

/-- the primitive byte -/
def k15 : Class := { plain "byte" none with kind := .primitive 'B', accessFlags := 0x411 }
/-- [B -/
def k16 : Class := { plain "[B" (some 0) with kind := .array 15 .byte, interfaces := #[14, 2], accessFlags := 1041 }

/-- the primitive char -/
def k17 : Class := { plain "char" none with kind := .primitive 'C', accessFlags := 0x411 }
/-- [C -/
def k18 : Class := { plain "[C" (some 0) with kind := .array 17 .char, interfaces := #[14, 2], accessFlags := 1041 }

/-- the primitive int -/
def k19 : Class := { plain "int" none with kind := .primitive 'I', accessFlags := 0x411 }
/-- [I -/
def k20 : Class := { plain "[I" (some 0) with kind := .array 19 .int, interfaces := #[14, 2], accessFlags := 1041 }

def heap : Heap := #[{ cls := 7, slots := #[.long 0, .int 1, .null, .int 0, .null, .int 0, .int 0], vm := .statics 7 },
  { cls := 9, slots := #[.ref 3], vm := .statics 9 },
  { cls := 12, slots := #[.null, .null, .null], vm := .statics 12 },
  { cls := 9, slots := #[.null], vm := .none }]
def classes : Array Class := #[k0, k1, k2, k3, k4, k5, k6, k7, k8, k9, k10, k11, k12, k13, k14, k15, k16, k17, k18, k19, k20]
def interned : List (Array UInt16 × Addr) := []
def slotsUsed : Nat := 12
def theMethod : MethodId := ⟨1, 2⟩
def args0 : Array Value := #[.int 5, .int 3, .int 7, .int 9, .int 1]
def aboutOver (below : List Frame) : State where
  vm := { classes := classes, interned := interned.toArray }
  heap := heap
  slotsUsed := slotsUsed
  threads := #[{ frames := .invoking theMethod args0 :: below }]
def below0 : List Frame := [.native { method := ⟨0, 0⟩, args := #[] }]
def about1 : State := aboutOver below0
def p0 : Program := .bare "" "" ""
def e0 : Env := launch0.env 0 0 0
theorem w_frames : about1.frames = Frame.invoking theMethod args0 :: below0 := rfl
set_option maxRecDepth 65536 in
theorem w_args : argsFit about1.vm theMethod args0 = true := by decide +kernel
set_option maxRecDepth 65536 in
theorem w_heap : heapFits about1 = true := by decide +kernel
set_option maxRecDepth 65536 in
theorem w_runnable : about1.curStatus? = some .runnable := by decide +kernel
set_option maxRecDepth 65536 in
theorem w_alone : about1.alone = true := by decide +kernel
set_option maxRecDepth 65536 in
theorem w_named : about1.methodNamed? x = some theMethod := by decide +kernel
set_option maxRecDepth 65536 in
theorem w_hears : about1.hears theMethod below0 = true := by decide +kernel
set_option maxRecDepth 65536 in
theorem w_ripe : about1.ripe theMethod args0 below0 = true := by decide +kernel
theorem w_running : about1.status = .running := rfl
set_option maxRecDepth 65536 in
theorem w_room : about1.hasRoom e0.platform room_1 = true :=
  launch0.hasRoom_least _ room_1 (by decide +kernel) (by decide +kernel) (by decide +kernel) (by decide +kernel) (by decide +kernel) (by decide +kernel)
theorem allAtoms_all (ts : List Jvm.Cond) (a : Array Jvm.Value) (st : Jvm.State) : (allAtoms ts).before a st = ts.all (fun c => c.before a st) := by
  induction ts with
  | nil => rfl
  | cons c t ih =>
    show (Jvm.Cond.and c (allAtoms t)).before a st = _
    rw [Jvm.Cond.before_and, ih, List.all_cons]
def words1 : List Jvm.Cond := Jvm.Cond.code x code maxLocals ret :: tables_1
/-- a 'code' word, met by the world's own term for the bytes: nothing is compared byte by byte -/
theorem code_word {y : MethodName} {bytes : ByteArray} {mx : Nat} {rt : Option FieldType} {a : Array Value} {s : State} {m : MethodId} {meth : Method} {c : Code} (h1 : s.methodNamed? y = some m) (h2 : s.vm.method? m = some meth) (h3 : meth.code = some c) (h4 : c.code = bytes)
    (h5 : (c.maxLocals == mx && c.exceptionTable.isEmpty && decide (c.maxStack ≤ mostOperands) && decide (meth.sig.returnType = rt) && !meth.locks && decide (parseMethodDescriptor y.desc = some meth.sig)) = true) : (Jvm.Cond.code y bytes mx rt).before a s = true := by
  simp only [Bool.and_eq_true, beq_iff_eq, Bool.not_eq_true', decide_eq_true_eq] at h5
  obtain ⟨⟨⟨⟨⟨g1, g2⟩, g3⟩, g4⟩, g5⟩, g6⟩ := h5
  simp [Cond.before, Cond.holds, Cond.value, h1, h2, h3, h4, g1, g2, g3, g4, g5, g6]
def isCode : Jvm.Cond → Bool
  | .code _ _ _ _ => true
  | _ => false
theorem all_split {L : List Jvm.Cond} {P : Jvm.Cond → Bool} (h1 : L.all (fun c => isCode c || P c) = true) (h2 : ∀ c ∈ L.filter isCode, P c = true) : L.all P = true := by
  refine List.all_eq_true.mpr fun c hc => ?_
  have h := List.all_eq_true.mp h1 c hc
  rcases Bool.eq_false_or_eq_true (isCode c) with hi | hi
  · exact h2 c (List.mem_filter.mpr ⟨hc, hi⟩)
  · simpa [hi] using h
set_option maxRecDepth 65536 in
theorem w_c0 : (Jvm.Cond.code x code maxLocals ret).before args0 about1 = true := code_word (m := ⟨1, 2⟩) (meth := k1m2) (c := k1c2) (by decide +kernel) rfl rfl rfl (by decide +kernel)
set_option maxRecDepth 65536 in
theorem w_c1 : (Jvm.Cond.code ({ cls := "com/example/idiolect/idiolect/internal/mf2/KeyIsCatchAllPinLaw", name := "draw", desc := "(ICCC)Ljava/lang/String;" } : Jvm.MethodName) method_2_code (4 : Nat) (Option.some (Jvm.ClassFile.FieldType.object "java/lang/String"))).before args0 about1 = true := code_word (m := ⟨1, 1⟩) (meth := k1m1) (c := k1c1) (by decide +kernel) rfl rfl rfl (by decide +kernel)
set_option maxRecDepth 65536 in
theorem w_c2 : (Jvm.Cond.code ({ cls := "java/lang/String", name := "<init>", desc := "([C)V" } : Jvm.MethodName) jdk_42_method_3_code (2 : Nat) (Option.none : Option Jvm.ClassFile.FieldType)).before args0 about1 = true := code_word (m := ⟨7, 1⟩) (meth := k7m1) (c := k7c1) (by decide +kernel) rfl rfl rfl (by decide +kernel)
set_option maxRecDepth 65536 in
theorem w_c3 : (Jvm.Cond.code ({ cls := "java/lang/String", name := "<init>", desc := "([CIILjava/lang/Void;)V" } : Jvm.MethodName) jdk_42_method_149_code (6 : Nat) (Option.none : Option Jvm.ClassFile.FieldType)).before args0 about1 = true := code_word (m := ⟨7, 3⟩) (meth := k7m3) (c := k7c3) (by decide +kernel) rfl rfl rfl (by decide +kernel)
set_option maxRecDepth 65536 in
theorem w_c4 : (Jvm.Cond.code ({ cls := "java/lang/Object", name := "<init>", desc := "()V" } : Jvm.MethodName) object_method_1_code (1 : Nat) (Option.none : Option Jvm.ClassFile.FieldType)).before args0 about1 = true := code_word (m := ⟨0, 0⟩) (meth := k0m0) (c := k0c0) (by decide +kernel) rfl rfl rfl (by decide +kernel)
set_option maxRecDepth 65536 in
theorem w_c5 : (Jvm.Cond.code ({ cls := "com/example/idiolect/idiolect/internal/mf2/Variant$Key", name := "<init>", desc := "(Ljava/lang/String;)V" } : Jvm.MethodName) prog_118_method_1_code (2 : Nat) (Option.none : Option Jvm.ClassFile.FieldType)).before args0 about1 = true := code_word (m := ⟨9, 0⟩) (meth := k9m0) (c := k9c0) (by decide +kernel) rfl rfl rfl (by decide +kernel)
set_option maxRecDepth 65536 in
theorem w_c6 : (Jvm.Cond.code ({ cls := "java/lang/Record", name := "<init>", desc := "()V" } : Jvm.MethodName) jdk_30_method_1_code (1 : Nat) (Option.none : Option Jvm.ClassFile.FieldType)).before args0 about1 = true := code_word (m := ⟨8, 0⟩) (meth := k8m0) (c := k8c0) (by decide +kernel) rfl rfl rfl (by decide +kernel)
set_option maxRecDepth 65536 in
theorem w_c7 : (Jvm.Cond.code ({ cls := "com/example/idiolect/idiolect/internal/mf2/Variant$Key", name := "isCatchAll", desc := "()Z" } : Jvm.MethodName) prog_118_method_2_code (1 : Nat) (Option.some Jvm.ClassFile.FieldType.boolean)).before args0 about1 = true := code_word (m := ⟨9, 1⟩) (meth := k9m1) (c := k9c1) (by decide +kernel) rfl rfl rfl (by decide +kernel)
set_option maxRecDepth 65536 in
theorem w_c8 : (Jvm.Cond.code ({ cls := "java/lang/StringUTF16", name := "compress", desc := "([CII)[B" } : Jvm.MethodName) jdk_52_method_16_code (6 : Nat) (Option.some (Jvm.ClassFile.FieldType.array Jvm.ClassFile.FieldType.byte))).before args0 about1 = true := code_word (m := ⟨10, 2⟩) (meth := k10m2) (c := k10c2) (by decide +kernel) rfl rfl rfl (by decide +kernel)
set_option maxRecDepth 65536 in
theorem w_c9 : (Jvm.Cond.code ({ cls := "java/lang/StringUTF16", name := "compress", desc := "([CI[BII)I" } : Jvm.MethodName) jdk_52_method_21_code (7 : Nat) (Option.some Jvm.ClassFile.FieldType.int)).before args0 about1 = true := code_word (m := ⟨10, 3⟩) (meth := k10m3) (c := k10c3) (by decide +kernel) rfl rfl rfl (by decide +kernel)
set_option maxRecDepth 65536 in
theorem w_c10 : (Jvm.Cond.code ({ cls := "java/lang/StringUTF16", name := "coderFromArrayLen", desc := "([BI)B" } : Jvm.MethodName) jdk_52_method_15_code (2 : Nat) (Option.some Jvm.ClassFile.FieldType.byte)).before args0 about1 = true := code_word (m := ⟨10, 1⟩) (meth := k10m1) (c := k10c1) (by decide +kernel) rfl rfl rfl (by decide +kernel)
set_option maxRecDepth 65536 in
theorem w_c11 : (Jvm.Cond.code ({ cls := "java/lang/String", name := "valueOf", desc := "(C)Ljava/lang/String;" } : Jvm.MethodName) jdk_42_method_139_code (1 : Nat) (Option.some (Jvm.ClassFile.FieldType.object "java/lang/String"))).before args0 about1 = true := code_word (m := ⟨7, 2⟩) (meth := k7m2) (c := k7c2) (by decide +kernel) rfl rfl rfl (by decide +kernel)
set_option maxRecDepth 65536 in
theorem w_c12 : (Jvm.Cond.code ({ cls := "java/lang/StringLatin1", name := "canEncode", desc := "(C)Z" } : Jvm.MethodName) jdk_43_method_3_code (1 : Nat) (Option.some Jvm.ClassFile.FieldType.boolean)).before args0 about1 = true := code_word (m := ⟨11, 1⟩) (meth := k11m1) (c := k11c1) (by decide +kernel) rfl rfl rfl (by decide +kernel)
set_option maxRecDepth 65536 in
theorem w_c13 : (Jvm.Cond.code ({ cls := "java/lang/StringLatin1", name := "toBytes", desc := "(C)[B" } : Jvm.MethodName) jdk_43_method_46_code (1 : Nat) (Option.some (Jvm.ClassFile.FieldType.array Jvm.ClassFile.FieldType.byte))).before args0 about1 = true := code_word (m := ⟨11, 2⟩) (meth := k11m2) (c := k11c2) (by decide +kernel) rfl rfl rfl (by decide +kernel)
set_option maxRecDepth 65536 in
theorem w_c14 : (Jvm.Cond.code ({ cls := "java/lang/String", name := "<init>", desc := "([BB)V" } : Jvm.MethodName) jdk_42_method_151_code (3 : Nat) (Option.none : Option Jvm.ClassFile.FieldType)).before args0 about1 = true := code_word (m := ⟨7, 4⟩) (meth := k7m4) (c := k7c4) (by decide +kernel) rfl rfl rfl (by decide +kernel)
def codes1 : List Jvm.Cond := [Jvm.Cond.code x code maxLocals ret, Jvm.Cond.code ({ cls := "com/example/idiolect/idiolect/internal/mf2/KeyIsCatchAllPinLaw", name := "draw", desc := "(ICCC)Ljava/lang/String;" } : Jvm.MethodName) method_2_code (4 : Nat) (Option.some (Jvm.ClassFile.FieldType.object "java/lang/String")), Jvm.Cond.code ({ cls := "java/lang/String", name := "<init>", desc := "([C)V" } : Jvm.MethodName) jdk_42_method_3_code (2 : Nat) (Option.none : Option Jvm.ClassFile.FieldType), Jvm.Cond.code ({ cls := "java/lang/String", name := "<init>", desc := "([CIILjava/lang/Void;)V" } : Jvm.MethodName) jdk_42_method_149_code (6 : Nat) (Option.none : Option Jvm.ClassFile.FieldType), Jvm.Cond.code ({ cls := "java/lang/Object", name := "<init>", desc := "()V" } : Jvm.MethodName) object_method_1_code (1 : Nat) (Option.none : Option Jvm.ClassFile.FieldType), Jvm.Cond.code ({ cls := "com/example/idiolect/idiolect/internal/mf2/Variant$Key", name := "<init>", desc := "(Ljava/lang/String;)V" } : Jvm.MethodName) prog_118_method_1_code (2 : Nat) (Option.none : Option Jvm.ClassFile.FieldType), Jvm.Cond.code ({ cls := "java/lang/Record", name := "<init>", desc := "()V" } : Jvm.MethodName) jdk_30_method_1_code (1 : Nat) (Option.none : Option Jvm.ClassFile.FieldType), Jvm.Cond.code ({ cls := "com/example/idiolect/idiolect/internal/mf2/Variant$Key", name := "isCatchAll", desc := "()Z" } : Jvm.MethodName) prog_118_method_2_code (1 : Nat) (Option.some Jvm.ClassFile.FieldType.boolean), Jvm.Cond.code ({ cls := "java/lang/StringUTF16", name := "compress", desc := "([CII)[B" } : Jvm.MethodName) jdk_52_method_16_code (6 : Nat) (Option.some (Jvm.ClassFile.FieldType.array Jvm.ClassFile.FieldType.byte)), Jvm.Cond.code ({ cls := "java/lang/StringUTF16", name := "compress", desc := "([CI[BII)I" } : Jvm.MethodName) jdk_52_method_21_code (7 : Nat) (Option.some Jvm.ClassFile.FieldType.int), Jvm.Cond.code ({ cls := "java/lang/StringUTF16", name := "coderFromArrayLen", desc := "([BI)B" } : Jvm.MethodName) jdk_52_method_15_code (2 : Nat) (Option.some Jvm.ClassFile.FieldType.byte), Jvm.Cond.code ({ cls := "java/lang/String", name := "valueOf", desc := "(C)Ljava/lang/String;" } : Jvm.MethodName) jdk_42_method_139_code (1 : Nat) (Option.some (Jvm.ClassFile.FieldType.object "java/lang/String")), Jvm.Cond.code ({ cls := "java/lang/StringLatin1", name := "canEncode", desc := "(C)Z" } : Jvm.MethodName) jdk_43_method_3_code (1 : Nat) (Option.some Jvm.ClassFile.FieldType.boolean), Jvm.Cond.code ({ cls := "java/lang/StringLatin1", name := "toBytes", desc := "(C)[B" } : Jvm.MethodName) jdk_43_method_46_code (1 : Nat) (Option.some (Jvm.ClassFile.FieldType.array Jvm.ClassFile.FieldType.byte)), Jvm.Cond.code ({ cls := "java/lang/String", name := "<init>", desc := "([BB)V" } : Jvm.MethodName) jdk_42_method_151_code (3 : Nat) (Option.none : Option Jvm.ClassFile.FieldType)]
set_option maxRecDepth 65536 in
theorem codes_eq : words1.filter isCode = codes1 := rfl
theorem w_codes : ∀ c ∈ words1.filter isCode, c.before args0 about1 = true := by
  rw [codes_eq]
  intro c hc
  simp only [codes1, List.mem_cons, List.not_mem_nil, or_false] at hc
  rcases hc with rfl | rfl | rfl | rfl | rfl | rfl | rfl | rfl | rfl | rfl | rfl | rfl | rfl | rfl | rfl
  · exact w_c0
  · exact w_c1
  · exact w_c2
  · exact w_c3
  · exact w_c4
  · exact w_c5
  · exact w_c6
  · exact w_c7
  · exact w_c8
  · exact w_c9
  · exact w_c10
  · exact w_c11
  · exact w_c12
  · exact w_c13
  · exact w_c14
set_option maxRecDepth 65536 in
theorem w_t1 : (words1.take 24).all (fun c => isCode c || c.before args0 about1) = true := by decide +kernel
set_option maxRecDepth 65536 in
theorem w_t2 : ((words1.drop 24).take 24).all (fun c => isCode c || c.before args0 about1) = true := by decide +kernel
set_option maxRecDepth 65536 in
theorem w_t3 : (((words1.drop 24).drop 24).take 24).all (fun c => isCode c || c.before args0 about1) = true := by decide +kernel
set_option maxRecDepth 65536 in
theorem w_t4 : (((words1.drop 24).drop 24).drop 24).all (fun c => isCode c || c.before args0 about1) = true := by decide +kernel
theorem w_tables : (allAtoms (Jvm.Cond.code x code maxLocals ret :: tables_1)).before args0 about1 = true := by
  rw [allAtoms_all]
  show words1.all (fun c => c.before args0 about1) = true
  refine all_split ?_ w_codes
  rw [← List.take_append_drop 24 words1, List.all_append, w_t1, ← List.take_append_drop 24 (words1.drop 24), List.all_append, w_t2, ← List.take_append_drop 24 ((words1.drop 24).drop 24), List.all_append, w_t3, w_t4]
  rfl
set_option maxRecDepth 65536 in
theorem w_rest : rest_1_c.before args0 about1 = true := by decide +kernel
set_option maxRecDepth 65536 in
theorem w_case : (Jvm.Cond.and given_1 narrow_1).before args0 about1 = true := by decide +kernel
set_option maxRecDepth 65536 in
theorem w_consts : constsHeld consts_1 about1 := Jvm.Lit.constsHeldB_iff.mp (by decide +kernel)
theorem w_applies : (headSpec (Jvm.Cond.code x code maxLocals ret :: tables_1) room_1).applies x e0.platform about1 = true :=
  (Spec.applies_iff w_frames).mpr ⟨w_running, w_runnable, w_alone, w_named, w_hears, w_ripe, w_room, w_tables⟩
theorem atStart : AtStart classFile x code maxLocals ret World_1 tables_1 room_1 Calls_1 rest_1 Pre_1 launch0 p0 e0 about1 theMethod args0 below0 :=
  ⟨lists_1, trivial, launch0.admits_env _ _ _, launch0.least_env, fairChoices_fair.cas, fairChoices_fair.clock, w_frames, w_args, w_heap, w_applies, ⟨w_consts, trivial⟩, w_rest, w_case⟩
end start1
theorem witness_1 : WitnessClaimed_1 := ⟨start1.p0, start1.e0, start1.about1, start1.theMethod, start1.args0, start1.below0, start1.atStart⟩
end Jvm.Pilot.@@N@@
