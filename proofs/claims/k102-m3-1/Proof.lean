import JvmDerived
import JvmDerived.Pilot.@@N@@Statement
import JvmDerived.Pilot.@@N@@Code
set_option linter.unusedVariables false
set_option linter.unusedSimpArgs false
/- laws to paste: Road.backV (cut by pick.py; bodies as the Statement names them) -/
namespace Jvm.Pilot.@@N@@
namespace StrChars
open Jvm Sem ClassFile Op Lib Jvm.Stand Jvm.Free.XT Jvm.Free.ALB Jvm.Free.JM Jvm.Free
open Jvm.Lib.Cold (StaticIs)
/-- a char array whose places are chars -/
def Ch (a : Addr) (A : Cell) (U : State) : Prop := Arr .char a A U ∧ Typed .char A
theorem Ch.mv {a : Addr} {A : Cell} {U U' : State} (h : Ch a A U) (hal : U.vm.Alike U'.vm) (hh : U'.heap = U.heap) : Ch a A U' := ⟨h.1.mv hal hh, h.2⟩
theorem Ch.keep {a : Addr} {A : Cell} {U U' : State} (h : Ch a A U) (hal : U.vm.Alike U'.vm) (hk : U'.heap[a]? = some A) : Ch a A U' := ⟨h.1.keep hal hk, h.2⟩
/-- what place i of a char[]'s cell holds -/
def cv (A : Cell) (i : Nat) : Int32 := match A.slots[i]? with | some (.int x) => x | _ => 0
theorem Ch.get {a : Addr} {A : Cell} {U : State} (h : Ch a A U) {i : Nat} (hi : i < A.slots.size) : A.slots[i]? = some (.int (cv A i)) := by
  have e := Array.getElem?_eq_getElem hi
  have f := h.2 i _ e
  unfold cv; rw [e]
  generalize A.slots[i] = v at f
  cases v <;> simp [fits] at f ⊢
/-- the byte that i2b leaves of a char -/
def lo8 (x : Int32) : Int32 := x.toInt8.toInt32
theorem fits_lo8 (y : Int32) : fits .byte (.int (lo8 y)) = true := by
  have h1 := y.toInt8.le_toInt
  have h2 := y.toInt8.toInt_lt
  simp only [lo8, fits, Bool.and_eq_true, decide_eq_true_eq, Int32.le_iff_toInt_le, Int8.toInt_toInt32, show (-128 : Int32).toInt = -128 from by decide, show (127 : Int32).toInt = 127 from by decide]
  omega
/-- A' is A but that each place j of lo .. hi - 1 holds f j -/
def Laid (A A' : Cell) (lo hi : Nat) (f : Nat → Value) : Prop := A'.cls = A.cls ∧ A'.vm = A.vm ∧ A'.slots.size = A.slots.size ∧ ∀ i, A'.slots[i]? = if lo ≤ i ∧ i < hi then some (f i) else A.slots[i]?
theorem Laid.zero (A : Cell) (lo : Nat) (f : Nat → Value) : Laid A A lo (lo + 0) f := ⟨rfl, rfl, rfl, fun i => by rw [if_neg (by omega)]⟩
theorem Laid.step {A Ak : Cell} {lo k : Nat} {f : Nat → Value} {v : Value} (h : Laid A Ak lo k f) (hlo : lo ≤ k) (hk : k < Ak.slots.size) (hv : v = f k) : Laid A (Ak.setSlot k v) lo (k + 1) f := by
  refine ⟨h.1, h.2.1, by simpa [Cell.setSlot] using h.2.2.1, fun i => ?_⟩
  by_cases e : k = i
  · subst e; rw [Cell.slots_setSlot_self v hk, if_pos (by omega), hv]
  · rw [Cell.slots_setSlot_ne v e, h.2.2.2 i]
    by_cases q : lo ≤ i ∧ i < k
    · rw [if_pos q, if_pos (by omega)]
    · rw [if_neg q, if_neg (by omega)]
def U16 : String := "java/lang/StringUTF16"
namespace Cmp5
def yN : MethodName := ⟨"java/lang/StringUTF16", "compress", "([CI[BII)I"⟩
abbrev yB : ByteArray := jdk_52_method_21_code
theorem d0 : decode yB 0 = .ok (.iconst 0, 1) := by decide +kernel
theorem d1 : decode yB 1 = .ok (.istore 5, 2) := by decide +kernel
theorem d3 : decode yB 3 = .ok (.iload 5, 2) := by decide +kernel
theorem d5 : decode yB 5 = .ok (.iload 4, 2) := by decide +kernel
theorem d7 : decode yB 7 = .ok (.if_icmp (.ge) 37, 3) := by decide +kernel
theorem d10 : decode yB 10 = .ok (.aload_n 0, 1) := by decide +kernel
theorem d11 : decode yB 11 = .ok (.iload_n 1, 1) := by decide +kernel
theorem d12 : decode yB 12 = .ok (.caload, 1) := by decide +kernel
theorem d13 : decode yB 13 = .ok (.istore 6, 2) := by decide +kernel
theorem d15 : decode yB 15 = .ok (.iload 6, 2) := by decide +kernel
theorem d17 : decode yB 17 = .ok (.sipush 255, 3) := by decide +kernel
theorem d20 : decode yB 20 = .ok (.if_icmp (.le) 6, 3) := by decide +kernel
theorem d26 : decode yB 26 = .ok (.aload_n 2, 1) := by decide +kernel
theorem d27 : decode yB 27 = .ok (.iload_n 3, 1) := by decide +kernel
theorem d28 : decode yB 28 = .ok (.iload 6, 2) := by decide +kernel
theorem d30 : decode yB 30 = .ok (.i2b, 1) := by decide +kernel
theorem d31 : decode yB 31 = .ok (.bastore, 1) := by decide +kernel
theorem d32 : decode yB 32 = .ok (.iinc 1 1, 3) := by decide +kernel
theorem d35 : decode yB 35 = .ok (.iinc 3 1, 3) := by decide +kernel
theorem d38 : decode yB 38 = .ok (.iinc 5 1, 3) := by decide +kernel
theorem d41 : decode yB 41 = .ok (.goto (-38), 3) := by decide +kernel
theorem d44 : decode yB 44 = .ok (.iload 4, 2) := by decide +kernel
theorem d46 : decode yB 46 = .ok (.ireturn, 1) := by decide +kernel
def site : List Cond := []
def tab : Cond := tabOf yN yB 7 (some .int) site
def P (b : Addr) (A : Cell) (d : Addr) (B : Cell) (o q len : Nat) (args : Array Value) (s : State) : Prop := args = #[.ref b, .int (Int32.ofNat o), .ref d, .int (Int32.ofNat q), .int (Int32.ofNat len)] ∧ Ch b A s ∧ Arr .byte d B s ∧ b ≠ d ∧ o + len ≤ A.slots.size ∧ q + len ≤ B.slots.size ∧ ∀ i, i < len → ¬ 255 < cv A (o + i)
def E (b : Addr) (A : Cell) (d : Addr) (B : Cell) (o q len : Nat) (r : Option Value) (s u : State) : Prop := r = some (.int (Int32.ofNat len)) ∧ ∃ B', Put d B' s u ∧ Laid B B' q (q + len) (fun j => Value.int (lo8 (cv A (o + (j - q)))))
/-- no char of the range above 255: len; the places written hold each char's low byte -/
theorem law (l : Launch) (b : Addr) (A : Cell) (d : Addr) (B : Cell) (o q len : Nat) : Law l yN 5 5 0 0 yB 7 (some .int) site (P b A d B o q len) (E b A d B o q len) (copyLocs d q len) 0 0 := by
  refine Law.of_walk (plainFor_of_name (by decide +kernel)) (by decide +kernel) (by decide +kernel) (by decide) (fun _ _ h => by rw [h.1]; rfl) (fun _ U U' hal hh h => ⟨h.1, h.2.1.mv hal hh, h.2.2.1.mv hal hh, h.2.2.2⟩) (fun r U U' V V' h1 hal h2 h => ⟨h.1, h.2.elim fun B' q => ⟨B', q.1.mv h1 h2, q.2⟩⟩) ?_
  intro p e s m args below meth c s₁ X0 hexec hbytes hml hret hlk hnm hown hh0 W hP
  obtain ⟨rfl, hA, hB, hne, l1, l2, hp⟩ := hP
  have c1 : Steps p.tables e below (s₁.setTop (entryFrame m #[.ref b, .int (Int32.ofNat o), .ref d, .int (Int32.ofNat q), .int (Int32.ofNat len)] 7)) (s₁.setTop (mkF m 0 #[.val (.ref b), .val (.int (Int32.ofNat o)), .val (.ref d), .val (.int (Int32.ofNat q)), .val (.int (Int32.ofNat len)), .unset, .unset] [])) := entry rfl
  have hA0 := hA.1.mv X0.warmed.alike hh0
  have hB0 := hB.mv X0.warmed.alike hh0
  have a31 := hA.1.2.2.2
  have c2 : Steps p.tables e below (s₁.setTop (entryFrame m #[.ref b, .int (Int32.ofNat o), .ref d, .int (Int32.ofNat q), .int (Int32.ofNat len)] 7)) (s₁.setTop (mkF m 3 #[.val (.ref b), .val (.int (Int32.ofNat o)), .val (.ref d), .val (.int (Int32.ofNat q)), .val (.int (Int32.ofNat len)), .val (.int 0), .unset] [])) := c1.trans (by
    refine iconstV X0.here hexec rfl 0 (hb hbytes d0) (by decide) ?_
    refine XS.istore X0.here hexec rfl (hb hbytes d1) rfl rfl ?_
    exact Steps.refl _)
  have loop : ∀ (r i : Nat), i + r = len → ∀ (z : Slot), (z = .unset ∨ ∃ w, z = .val w ∧ w.category = 1) → ∀ (Tl : State) (Bk : Cell), Stand p l e { frames := 0, locals := 0, cells := 0, slots := 0 } s m #[.ref b, .int (Int32.ofNat o), .ref d, .int (Int32.ofNat q), .int (Int32.ofNat len)] below meth c Tl ([] ++ copyLocs d q i) 0 0 → Put d Bk s₁ Tl → Laid B Bk q (q + i) (fun j => Value.int (lo8 (cv A (o + (j - q))))) →
      Steps p.tables e below (s₁.setTop (entryFrame m #[.ref b, .int (Int32.ofNat o), .ref d, .int (Int32.ofNat q), .int (Int32.ofNat len)] 7)) (Tl.setTop (mkF m 3 #[.val (.ref b), .val (.int (Int32.ofNat (o + i))), .val (.ref d), .val (.int (Int32.ofNat (q + i))), .val (.int (Int32.ofNat len)), .val (.int (Int32.ofNat i)), z] [])) → ∃ (T' : State) (B' : Cell) (z' : Slot), Stand p l e { frames := 0, locals := 0, cells := 0, slots := 0 } s m #[.ref b, .int (Int32.ofNat o), .ref d, .int (Int32.ofNat q), .int (Int32.ofNat len)] below meth c T' ([] ++ copyLocs d q len) 0 0 ∧ Put d B' s₁ T' ∧ Laid B B' q (q + len) (fun j => Value.int (lo8 (cv A (o + (j - q))))) ∧
      Steps p.tables e below (s₁.setTop (entryFrame m #[.ref b, .int (Int32.ofNat o), .ref d, .int (Int32.ofNat q), .int (Int32.ofNat len)] 7)) (T'.setTop (mkF m 3 #[.val (.ref b), .val (.int (Int32.ofNat (o + len))), .val (.ref d), .val (.int (Int32.ofNat (q + len))), .val (.int (Int32.ofNat len)), .val (.int (Int32.ofNat len)), z'] [])) := by
    intro r
    induction r with
    | zero =>
      intro i hi z hz Tl Bk Xl pl fl cl
      have hil : i = len := by omega
      rw [hil] at Xl fl cl
      exact ⟨Tl, Bk, z, Xl, pl, fl, cl⟩
    | succ r ih =>
      intro i hi z hz Tl Bk Xl pl fl cl
      have all := X0.warmed.alike.symm.trans Xl.warmed.alike
      have hAl := hA0.keep all (pl.other hne hA0.1)
      have hBk := hB0.like all pl.1 fl.1 fl.2.1 fl.2.2.1
      have hlt : q + i < Bk.slots.size := by rw [fl.2.2.1]; omega
      have c3 : Steps p.tables e below (s₁.setTop (entryFrame m #[.ref b, .int (Int32.ofNat o), .ref d, .int (Int32.ofNat q), .int (Int32.ofNat len)] 7)) (Tl.setTop (mkF m 12 #[.val (.ref b), .val (.int (Int32.ofNat (o + i))), .val (.ref d), .val (.int (Int32.ofNat (q + i))), .val (.int (Int32.ofNat len)), .val (.int (Int32.ofNat i)), z] [.int (Int32.ofNat (o + i)), .ref b])) := cl.trans (by
        refine XS.iload Xl.here hexec rfl (hb hbytes d3) rfl ?_
        refine XS.iload Xl.here hexec rfl (hb hbytes d5) rfl ?_
        refine XS.icmpNo Xl.here hexec rfl (hb hbytes d7) rfl (ii_ge_f (lt32 (by omega) (by omega))) ?_
        refine XS.aloadN Xl.here hexec rfl (hb hbytes d10) rfl rfl ?_
        refine XS.iloadN Xl.here hexec rfl (hb hbytes d11) rfl ?_
        exact Steps.refl _)
      have c4 : Steps p.tables e below (s₁.setTop (entryFrame m #[.ref b, .int (Int32.ofNat o), .ref d, .int (Int32.ofNat q), .int (Int32.ofNat len)] 7)) (Tl.setTop (mkF m 13 #[.val (.ref b), .val (.int (Int32.ofNat (o + i))), .val (.ref d), .val (.int (Int32.ofNat (q + i))), .val (.int (Int32.ofNat len)), .val (.int (Int32.ofNat i)), z] [.int (cv A (o + i))])) := c3.trans (by
        refine Xl.aget hexec hAl rfl (hA.get (i := o + i) (by omega)) rfl rfl (hb hbytes d12) ?_
        exact Steps.refl _)
      have c5 : Steps p.tables e below (s₁.setTop (entryFrame m #[.ref b, .int (Int32.ofNat o), .ref d, .int (Int32.ofNat q), .int (Int32.ofNat len)] 7)) (Tl.setTop (mkF m 15 #[.val (.ref b), .val (.int (Int32.ofNat (o + i))), .val (.ref d), .val (.int (Int32.ofNat (q + i))), .val (.int (Int32.ofNat len)), .val (.int (Int32.ofNat i)), .val (.int (cv A (o + i)))] [])) := c4.trans (by
        refine XS.istoreS Xl.here hexec rfl (hb hbytes d13) rfl rfl hz ?_
        exact Steps.refl _)
      have c6 : Steps p.tables e below (s₁.setTop (entryFrame m #[.ref b, .int (Int32.ofNat o), .ref d, .int (Int32.ofNat q), .int (Int32.ofNat len)] 7)) (Tl.setTop (mkF m 31 #[.val (.ref b), .val (.int (Int32.ofNat (o + i))), .val (.ref d), .val (.int (Int32.ofNat (q + i))), .val (.int (Int32.ofNat len)), .val (.int (Int32.ofNat i)), .val (.int (cv A (o + i)))] [.int (lo8 (cv A (o + i))), .int (Int32.ofNat (q + i)), .ref d])) := c5.trans (by
        refine XS.iload Xl.here hexec rfl (hb hbytes d15) rfl ?_
        refine sipushV Xl.here hexec rfl 255 (hb hbytes d17) (by decide) ?_
        refine XS.icmpYes Xl.here hexec rfl (pc0 := 20) rfl (hb hbytes d20) rfl (ii_le_t (hp i (by omega))) (by decide) rfl ?_
        refine XS.aloadN Xl.here hexec rfl (hb hbytes d26) rfl rfl ?_
        refine XS.iloadN Xl.here hexec rfl (hb hbytes d27) rfl ?_
        refine XS.iload Xl.here hexec rfl (hb hbytes d28) rfl ?_
        refine i2b Xl.here hexec rfl (hb hbytes d30) rfl ?_
        exact Steps.refl _)
      obtain ⟨T7, X7, p7, st7⟩ := Xl.aput hexec hBk rfl hlt rfl (fits_lo8 (cv A (o + i))) (g := (mkF m 31 #[.val (.ref b), .val (.int (Int32.ofNat (o + i))), .val (.ref d), .val (.int (Int32.ofNat (q + i))), .val (.int (Int32.ofNat len)), .val (.int (Int32.ofNat i)), .val (.int (cv A (o + i)))] [.int (lo8 (cv A (o + i))), .int (Int32.ofNat (q + i)), .ref d])) rfl (rest := []) rfl (hb hbytes d31)
      have c8 : Steps p.tables e below (s₁.setTop (entryFrame m #[.ref b, .int (Int32.ofNat o), .ref d, .int (Int32.ofNat q), .int (Int32.ofNat len)] 7)) (T7.setTop (mkF m 32 #[.val (.ref b), .val (.int (Int32.ofNat (o + i))), .val (.ref d), .val (.int (Int32.ofNat (q + i))), .val (.int (Int32.ofNat len)), .val (.int (Int32.ofNat i)), .val (.int (cv A (o + i)))] [])) := c6.trans (st7 _ (Steps.refl _))
      have c9 : Steps p.tables e below (s₁.setTop (entryFrame m #[.ref b, .int (Int32.ofNat o), .ref d, .int (Int32.ofNat q), .int (Int32.ofNat len)] 7)) (T7.setTop (mkF m 3 #[.val (.ref b), .val (.int (Int32.ofNat (o + i) + 1)), .val (.ref d), .val (.int (Int32.ofNat (q + i) + 1)), .val (.int (Int32.ofNat len)), .val (.int (Int32.ofNat i + 1)), .val (.int (cv A (o + i)))] [])) := c8.trans (by
        refine iincV X7.here hexec rfl 1 (hb hbytes d32) (by decide) rfl rfl ?_
        refine iincV X7.here hexec rfl 1 (hb hbytes d35) (by decide) rfl rfl ?_
        refine iincV X7.here hexec rfl 1 (hb hbytes d38) (by decide) rfl rfl ?_
        refine XS.goto X7.here hexec rfl (pc0 := 41) rfl (hb hbytes d41) (by decide) rfl ?_
        exact Steps.refl _)
      have c10 : Steps p.tables e below (s₁.setTop (entryFrame m #[.ref b, .int (Int32.ofNat o), .ref d, .int (Int32.ofNat q), .int (Int32.ofNat len)] 7)) (T7.setTop (mkF m 3 #[.val (.ref b), .val (.int (Int32.ofNat (o + (i + 1)))), .val (.ref d), .val (.int (Int32.ofNat (q + (i + 1)))), .val (.int (Int32.ofNat len)), .val (.int (Int32.ofNat (i + 1))), .val (.int (cv A (o + i)))] [])) := by
        have := c9
        rw [succ32, succ32, succ32] at this
        exact this
      exact ih (i + 1) (by omega) _ (Or.inr ⟨_, rfl, rfl⟩) T7 _ (by rw [copyLocs_step, ← List.append_assoc]; exact X7) (pl.trans p7) (fl.step (by omega) hlt (by simp)) c10
  obtain ⟨T9, B9, z9, X9, p9, f9, g9⟩ := loop len 0 (by omega) .unset (Or.inl rfl) s₁ B (by simpa [copyLocs] using X0) ⟨hB0.1, fun _ _ => rfl, rfl⟩ (Laid.zero _ _ _) c2
  have c11 : Steps p.tables e below (s₁.setTop (entryFrame m #[.ref b, .int (Int32.ofNat o), .ref d, .int (Int32.ofNat q), .int (Int32.ofNat len)] 7)) (T9.setTop (mkF m 46 #[.val (.ref b), .val (.int (Int32.ofNat (o + len))), .val (.ref d), .val (.int (Int32.ofNat (q + len))), .val (.int (Int32.ofNat len)), .val (.int (Int32.ofNat len)), z9] [.int (Int32.ofNat len)])) := g9.trans (by
    refine XS.iload X9.here hexec rfl (hb hbytes d3) rfl ?_
    refine XS.iload X9.here hexec rfl (hb hbytes d5) rfl ?_
    refine XS.icmpYes X9.here hexec rfl (pc0 := 7) rfl (hb hbytes d7) rfl (ii_ge_t (nlt32 (by omega) (Nat.le_refl _))) (by decide) rfl ?_
    refine XS.iload X9.here hexec rfl (hb hbytes d44) rfl ?_
    exact Steps.refl _)
  exact ⟨T9, some (.int (Int32.ofNat len)), _, _, _, X9, by simp, rfl, rfl, (fun h => by cases h), ⟨rfl, B9, p9.from hh0, f9⟩, fun fs hl => c11.trans (X9.ireturnOut hexec hret rfl (Or.inl rfl) (hb hbytes d46) hl)⟩
end Cmp5
namespace Cmp3
def yN : MethodName := ⟨"java/lang/StringUTF16", "compress", "([CII)[B"⟩
abbrev yB : ByteArray := jdk_52_method_16_code
theorem d0 : decode yB 0 = .ok (.iload_n 2, 1) := by decide +kernel
theorem d1 : decode yB 1 = .ok (.newarray .byte, 2) := by decide +kernel
theorem d3 : decode yB 3 = .ok (.astore_n 3, 1) := by decide +kernel
theorem d4 : decode yB 4 = .ok (.aload_n 0, 1) := by decide +kernel
theorem d5 : decode yB 5 = .ok (.iload_n 1, 1) := by decide +kernel
theorem d6 : decode yB 6 = .ok (.aload_n 3, 1) := by decide +kernel
theorem d7 : decode yB 7 = .ok (.iconst 0, 1) := by decide +kernel
theorem d8 : decode yB 8 = .ok (.iload_n 2, 1) := by decide +kernel
theorem d9 : decode yB 9 = .ok (.invokestatic 115, 3) := by decide +kernel
theorem d12 : decode yB 12 = .ok (.istore 4, 2) := by decide +kernel
theorem d14 : decode yB 14 = .ok (.iload 4, 2) := by decide +kernel
theorem d16 : decode yB 16 = .ok (.iload_n 2, 1) := by decide +kernel
theorem d17 : decode yB 17 = .ok (.if_icmp (.eq) 40, 3) := by decide +kernel
theorem d57 : decode yB 57 = .ok (.aload_n 3, 1) := by decide +kernel
theorem d58 : decode yB 58 = .ok (.areturn, 1) := by decide +kernel
def site : List Cond := [.arrayClass .byte, Cmp5.tab] ++ staticW U16 115 Cmp5.yN
def tab : Cond := tabOf yN yB 6 (some (.array .byte)) site
def P (b : Addr) (A : Cell) (o len : Nat) (args : Array Value) (s : State) : Prop := args = #[.ref b, .int (Int32.ofNat o), .int (Int32.ofNat len)] ∧ Ch b A s ∧ o + len ≤ A.slots.size ∧ len ≤ 536870912 ∧ ∀ i, i < len → ¬ 255 < cv A (o + i)
def E (b : Addr) (A : Cell) (o len : Nat) (r : Option Value) (s u : State) : Prop := NewArr .byte "[B" len (fun j => .int (lo8 (cv A (o + j)))) r s u ∧ u.heap.size = s.heap.size + 1
/-- no char of the range above 255: a new byte[] of their low bytes -/
theorem law (l : Launch) (b : Addr) (A : Cell) (o len : Nat) : Law l yN 3 3 1 18 yB 6 (some (.array .byte)) site (P b A o len) (E b A o len) [] 1 len := by
  refine Law.of_walk (plainFor_of_name (by decide +kernel)) (by decide +kernel) (by decide +kernel) (by decide) (fun _ _ h => by rw [h.1]; rfl) (fun _ U U' hal hh h => ⟨h.1, h.2.1.mv hal hh, h.2.2⟩) (fun r U U' V V' h1 hal h2 h => ⟨NewArr.mv r U U' V V' h1 hal h2 h.1, by rw [h1, h2]; exact h.2⟩) ?_
  intro p e s m args below meth c s₁ X0 hexec hbytes hml hret hlk hnm hown hh0 W hP
  obtain ⟨rfl, hA, l1, l2, hp⟩ := hP
  have a31 := hA.1.2.2.2
  have c1 : Steps p.tables e below (s₁.setTop (entryFrame m #[.ref b, .int (Int32.ofNat o), .int (Int32.ofNat len)] 6)) (s₁.setTop (mkF m 0 #[.val (.ref b), .val (.int (Int32.ofNat o)), .val (.int (Int32.ofNat len)), .unset, .unset, .unset] [])) := entry rfl
  have c2 : Steps p.tables e below (s₁.setTop (entryFrame m #[.ref b, .int (Int32.ofNat o), .int (Int32.ofNat len)] 6)) (s₁.setTop (mkF m 1 #[.val (.ref b), .val (.int (Int32.ofNat o)), .val (.int (Int32.ofNat len)), .unset, .unset, .unset] [.int (Int32.ofNat len)])) := c1.trans (by
    refine XS.iloadN X0.here hexec rfl (hb hbytes d0) rfl ?_
    exact Steps.refl _)
  obtain ⟨T3, B3, X3, ba3, bs3, bv3, bh3, bf3, st3⟩ := X0.anew hexec (atype := .byte) (wk W (.arrayClass .byte)) rfl (by show len * 1 ≤ _; omega) (by omega) (g := (mkF m 1 #[.val (.ref b), .val (.int (Int32.ofNat o)), .val (.int (Int32.ofNat len)), .unset, .unset, .unset] [.int (Int32.ofNat len)])) rfl (hb hbytes d1) (rest := []) rfl (Nat.le_refl _) (by show 0 + len ≤ len; omega)
  rw [hh0] at ba3 st3
  have kp3 : XT.Kept s T3 := (XT.Kept.of_eq hh0).push bh3
  have hA3 := hA.keep X3.warmed.alike (kp3 _ _ hA.1.1)
  have hne : b ≠ s.heap.size := hA.1.ne
  have c4 : Steps p.tables e below (s₁.setTop (entryFrame m #[.ref b, .int (Int32.ofNat o), .int (Int32.ofNat len)] 6)) (T3.setTop (mkF m 3 #[.val (.ref b), .val (.int (Int32.ofNat o)), .val (.int (Int32.ofNat len)), .unset, .unset, .unset] [.ref s.heap.size])) := c2.trans (st3 _ (Steps.refl _))
  have c5 : Steps p.tables e below (s₁.setTop (entryFrame m #[.ref b, .int (Int32.ofNat o), .int (Int32.ofNat len)] 6)) (T3.setTop (mkF m 9 #[.val (.ref b), .val (.int (Int32.ofNat o)), .val (.int (Int32.ofNat len)), .val (.ref s.heap.size), .unset, .unset] [.int (Int32.ofNat len), .int 0, .ref s.heap.size, .int (Int32.ofNat o), .ref b])) := c4.trans (by
    refine XS.astoreN X3.here hexec rfl (hb hbytes d3) rfl rfl rfl ?_
    refine XS.aloadN X3.here hexec rfl (hb hbytes d4) rfl rfl ?_
    refine XS.iloadN X3.here hexec rfl (hb hbytes d5) rfl ?_
    refine XS.aloadN X3.here hexec rfl (hb hbytes d6) rfl rfl ?_
    refine iconstV X3.here hexec rfl 0 (hb hbytes d7) (by decide) ?_
    refine XS.iloadN X3.here hexec rfl (hb hbytes d8) rfl ?_
    exact Steps.refl _)
  obtain ⟨v6, T6, X6, E6, g6⟩ := X3.callS hexec (Cmp5.law l b A s.heap.size B3 o 0 len) hown (wks W (staticW U16 115 Cmp5.yN)) (wk W Cmp5.tab) (W := 0) (Nat.le_of_ble_eq_true rfl) (Nat.le_of_ble_eq_true rfl) (Nat.le_refl _) (by show 0 + len + 0 ≤ len; omega) (g := (mkF m 9 #[.val (.ref b), .val (.int (Int32.ofNat o)), .val (.int (Int32.ofNat len)), .val (.ref s.heap.size), .unset, .unset] [.int (Int32.ofNat len), .int (Int32.ofNat 0), .ref s.heap.size, .int (Int32.ofNat o), .ref b])) rfl (by rw [hml]; rfl) c5 (argsL := [.ref b, .int (Int32.ofNat o), .ref s.heap.size, .int (Int32.ofNat 0), .int (Int32.ofNat len)]) (rest := []) rfl rfl (by show 2 * 0 + 0 ≤ _; decide) (hb hbytes d9) (⟨rfl, hA3, ba3, hne, l1, by rw [bs3]; simp, hp⟩)
  obtain ⟨rfl, B6, p6, f6⟩ := E6
  have c7 : Steps p.tables e below (s₁.setTop (entryFrame m #[.ref b, .int (Int32.ofNat o), .int (Int32.ofNat len)] 6)) (T6.setTop (mkF m 12 #[.val (.ref b), .val (.int (Int32.ofNat o)), .val (.int (Int32.ofNat len)), .val (.ref s.heap.size), .unset, .unset] [.int (Int32.ofNat len)])) := g6
  have c8 : Steps p.tables e below (s₁.setTop (entryFrame m #[.ref b, .int (Int32.ofNat o), .int (Int32.ofNat len)] 6)) (T6.setTop (mkF m 58 #[.val (.ref b), .val (.int (Int32.ofNat o)), .val (.int (Int32.ofNat len)), .val (.ref s.heap.size), .val (.int (Int32.ofNat len)), .unset] [.ref s.heap.size])) := c7.trans (by
    refine XS.istore X6.here hexec rfl (hb hbytes d12) rfl rfl ?_
    refine XS.iload X6.here hexec rfl (hb hbytes d14) rfl ?_
    refine XS.iloadN X6.here hexec rfl (hb hbytes d16) rfl ?_
    refine XS.icmpYes X6.here hexec rfl (pc0 := 17) rfl (hb hbytes d17) rfl (ii_eq_t rfl) (by decide) rfl ?_
    refine XS.aloadN X6.here hexec rfl (hb hbytes d57) rfl rfl ?_
    exact Steps.refl _)
  have X8 := X6.wide (L' := []) (cells' := 1) (slots' := len) (fun x hx hlt => by
    simp only [List.nil_append, copyLocs, List.mem_map, List.mem_range] at hx
    obtain ⟨i, -, rfl⟩ := hx
    exact absurd hlt (Nat.lt_irrefl _)) (Nat.le_refl _) (by omega)
  exact ⟨T6, some (.ref s.heap.size), _, _, _, X8, rfl, rfl, rfl, (fun h => by cases h), ⟨⟨rfl, B6, ba3.like (X3.warmed.alike.symm.trans X6.warmed.alike) p6.1 f6.1 f6.2.1 f6.2.2.1, f6.2.1.trans bv3, by rw [X6.warmed.alike.findClass, f6.1]; exact bf3, by rw [f6.2.2.1, bs3]; simp, fun j hj => by rw [f6.2.2.2 j, if_pos (by omega)]; rfl, kp3.put p6 (Nat.le_refl _)⟩, by rw [p6.2.2, bh3, hh0]; simp⟩, fun fs hl => c8.trans (X8.areturnOut hexec rfl hret rfl (hb hbytes d58) hl)⟩
end Cmp3
namespace CodL
def yN : MethodName := ⟨"java/lang/StringUTF16", "coderFromArrayLen", "([BI)B"⟩
abbrev yB : ByteArray := jdk_52_method_15_code
theorem d0 : decode yB 0 = .ok (.iload_n 1, 1) := by decide +kernel
theorem d1 : decode yB 1 = .ok (.aload_n 0, 1) := by decide +kernel
theorem d2 : decode yB 2 = .ok (.arraylength, 1) := by decide +kernel
theorem d3 : decode yB 3 = .ok (.isub, 1) := by decide +kernel
theorem d4 : decode yB 4 = .ok (.bipush 31, 2) := by decide +kernel
theorem d6 : decode yB 6 = .ok (.iushr, 1) := by decide +kernel
theorem d7 : decode yB 7 = .ok (.i2b, 1) := by decide +kernel
theorem d8 : decode yB 8 = .ok (.ireturn, 1) := by decide +kernel
def site : List Cond := []
def tab : Cond := tabOf yN yB 2 (some .byte) site
def P (d : Addr) (B : Cell) (args : Array Value) (s : State) : Prop := args = #[.ref d, .int (Int32.ofNat B.slots.size)] ∧ Arr .byte d B s
def E (r : Option Value) (s u : State) : Prop := XT.PureE (some (.int 0)) r s u
/-- an array as long as the number of chars: LATIN1 -/
theorem law (l : Launch) (d : Addr) (B : Cell) : Law l yN 2 2 0 0 yB 2 (some .byte) site (P d B) E [] 0 0 := by
  refine Law.of_walk (plainFor_of_name (by decide +kernel)) (by decide +kernel) (by decide +kernel) (by decide) (fun _ _ h => by rw [h.1]; rfl) (fun _ U U' hal hh h => ⟨h.1, h.2.mv hal hh⟩) (fun r U U' V V' h1 hal h2 h => XT.PureE.mv r U U' V V' h1 hal h2 h) ?_
  intro p e s m args below meth c s₁ X0 hexec hbytes hml hret hlk hnm hown hh0 W hP
  obtain ⟨rfl, hB⟩ := hP
  have hB0 := hB.mv X0.warmed.alike hh0
  have c1 : Steps p.tables e below (s₁.setTop (entryFrame m #[.ref d, .int (Int32.ofNat B.slots.size)] 2)) (s₁.setTop (mkF m 0 #[.val (.ref d), .val (.int (Int32.ofNat B.slots.size))] [])) := entry rfl
  have c2 : Steps p.tables e below (s₁.setTop (entryFrame m #[.ref d, .int (Int32.ofNat B.slots.size)] 2)) (s₁.setTop (mkF m 2 #[.val (.ref d), .val (.int (Int32.ofNat B.slots.size))] [.ref d, .int (Int32.ofNat B.slots.size)])) := c1.trans (by
    refine XS.iloadN X0.here hexec rfl (hb hbytes d0) rfl ?_
    refine XS.aloadN X0.here hexec rfl (hb hbytes d1) rfl rfl ?_
    exact Steps.refl _)
  have c3 : Steps p.tables e below (s₁.setTop (entryFrame m #[.ref d, .int (Int32.ofNat B.slots.size)] 2)) (s₁.setTop (mkF m 8 #[.val (.ref d), .val (.int (Int32.ofNat B.slots.size))] [.int (lo8 (ushr (Int32.ofNat B.slots.size - Int32.ofNat B.slots.size) 31))])) := c2.trans (by
    refine X0.alen hexec hB0 rfl rfl (hb hbytes d2) ?_
    refine XS.isub X0.here hexec rfl (hb hbytes d3) rfl ?_
    refine bipushV X0.here hexec rfl 31 (hb hbytes d4) (by decide) ?_
    refine iushr X0.here hexec rfl (hb hbytes d6) rfl ?_
    refine i2b X0.here hexec rfl (hb hbytes d7) rfl ?_
    exact Steps.refl _)
  have e0 : lo8 (ushr (Int32.ofNat B.slots.size - Int32.ofNat B.slots.size) 31) = 0 := by rw [Int32.sub_self]; decide
  rw [e0] at c3
  exact ⟨s₁, some (.int 0), _, _, _, X0, rfl, rfl, rfl, (fun h => by cases h), ⟨rfl, hh0⟩, fun fs hl => c3.trans (X0.ireturnOut hexec hret rfl (Or.inr (Or.inr (Or.inl rfl))) (hb hbytes d8) hl)⟩
end CodL
/-- the String at a is Latin-1 over a new byte[] (the heap's one new cell): the low bytes of the len chars of A from o on; every cell but a is kept -/
def Got (a : Addr) (D : Cell) (fV fC : Field) (A : Cell) (o len : Nat) (r : Option Value) (s u : State) : Prop := r = none ∧ ∃ D' V : Cell, Blank "java/lang/String" a D' u ∧ Same D D' [fV.slot, fC.slot] ∧ D'.slots[fV.slot]? = some (.ref s.heap.size) ∧ D'.slots[fC.slot]? = some (.int 0) ∧ Arr .byte s.heap.size V u ∧ V.vm = .none ∧ u.vm.findClass "[B" = some V.cls ∧ V.slots.size = len ∧ (∀ j, j < len → V.slots[j]? = some (.int (lo8 (cv A (o + j))))) ∧ (∀ (y : Addr) (c : Cell), y ≠ a → s.heap[y]? = some c → u.heap[y]? = some c) ∧ u.heap.size = s.heap.size + 1
theorem Got.mv {a : Addr} {D A : Cell} {fV fC : Field} {o len : Nat} : ∀ r (U U' V V' : State), U'.heap = U.heap → V.vm.Alike V'.vm → V'.heap = V.heap → Got a D fV fC A o len r U V → Got a D fV fC A o len r U' V' :=
  fun r U U' V V' h1 hal h2 ⟨e0, D', X, a1, a2, a3, a4, a5, a6, a7, a8, a9, a10, a11⟩ => ⟨e0, D', X, a1.mv hal h2, a2, by rw [h1]; exact a3, a4, by rw [h1]; exact a5.mv hal h2, a6, by rw [hal.findClass]; exact a7, a8, a9, by rw [h1, h2]; exact a10, by rw [h1, h2]; exact a11⟩
namespace New4
def yN : MethodName := ⟨"java/lang/String", "<init>", "([CIILjava/lang/Void;)V"⟩
abbrev yB : ByteArray := jdk_42_method_149_code
theorem d0 : decode yB 0 = .ok (.aload_n 0, 1) := by decide +kernel
theorem d1 : decode yB 1 = .ok (.invokespecial 1, 3) := by decide +kernel
theorem d4 : decode yB 4 = .ok (.iload_n 3, 1) := by decide +kernel
theorem d5 : decode yB 5 = .ok (.ifCond (.ne) 22, 3) := by decide +kernel
theorem d27 : decode yB 27 = .ok (.getstatic 38, 3) := by decide +kernel
theorem d30 : decode yB 30 = .ok (.ifCond (.eq) 28, 3) := by decide +kernel
theorem d33 : decode yB 33 = .ok (.aload_n 1, 1) := by decide +kernel
theorem d34 : decode yB 34 = .ok (.iload_n 2, 1) := by decide +kernel
theorem d35 : decode yB 35 = .ok (.iload_n 3, 1) := by decide +kernel
theorem d36 : decode yB 36 = .ok (.invokestatic 177, 3) := by decide +kernel
theorem d39 : decode yB 39 = .ok (.astore 5, 2) := by decide +kernel
theorem d41 : decode yB 41 = .ok (.aload_n 0, 1) := by decide +kernel
theorem d42 : decode yB 42 = .ok (.aload 5, 2) := by decide +kernel
theorem d44 : decode yB 44 = .ok (.iload_n 3, 1) := by decide +kernel
theorem d45 : decode yB 45 = .ok (.invokestatic 47, 3) := by decide +kernel
theorem d48 : decode yB 48 = .ok (.putfield 15, 3) := by decide +kernel
theorem d51 : decode yB 51 = .ok (.aload_n 0, 1) := by decide +kernel
theorem d52 : decode yB 52 = .ok (.aload 5, 2) := by decide +kernel
theorem d54 : decode yB 54 = .ok (.putfield 9, 3) := by decide +kernel
theorem d57 : decode yB 57 = .ok (.return_, 1) := by decide +kernel
def site : List Cond := [.fieldLink "java/lang/String" 38 "java/lang/String" "COMPACT_STRINGS" "Z", Cmp3.tab, CodL.tab, .laysFinal "java/lang/String" "java/lang/String" "value" "[B", .fieldLink "java/lang/String" 9 "java/lang/String" "value" "[B", .laysFinal "java/lang/String" "java/lang/String" "coder" "B", .fieldLink "java/lang/String" 15 "java/lang/String" "coder" "B"] ++ objW "java/lang/String" 1 ++ staticW "java/lang/String" 177 Cmp3.yN ++ staticW "java/lang/String" 47 CodL.yN
def tab : Cond := tabOf yN yB 6 none site
def P (a : Addr) (D : Cell) (fV fC : Field) (b : Addr) (A : Cell) (z : Int32) (o len : Nat) (args : Array Value) (s : State) : Prop := args = #[.ref a, .ref b, .int (Int32.ofNat o), .int (Int32.ofNat len), .null] ∧ Blank "java/lang/String" a D s ∧ Found "java/lang/String" "value" "[B" fV s ∧ Found "java/lang/String" "coder" "B" fC s ∧ Ch b A s ∧ StaticIs s "java/lang/String" "COMPACT_STRINGS" "Z" (.int z) ∧ ¬ z = 0 ∧ 0 < len ∧ o + len ≤ A.slots.size ∧ len ≤ 536870912 ∧ ∀ i, i < len → ¬ 255 < cv A (o + i)
def E (a : Addr) (D : Cell) (fV fC : Field) (A : Cell) (o len : Nat) (r : Option Value) (s u : State) : Prop := Got a D fV fC A o len r s u
/-- len > 0, no char of the range above 255: a Latin-1 String of their low bytes -/
theorem law (l : Launch) (a : Addr) (D : Cell) (fV fC : Field) (b : Addr) (A : Cell) (z : Int32) (o len : Nat) : Law l yN 5 4 2 35 yB 6 none site (P a D fV fC b A z o len) (E a D fV fC A o len) [⟨a, fC.slot⟩, ⟨a, fV.slot⟩] 1 len := by
  refine Law.of_walk (plainFor_of_name (by decide +kernel)) (by decide +kernel) (by decide +kernel) (by decide) (fun _ _ h => by rw [h.1]; rfl) (fun _ U U' hal hh h => ⟨h.1, h.2.1.mv hal hh, h.2.2.1.al hal, h.2.2.2.1.al hal, h.2.2.2.2.1.mv hal hh, h.2.2.2.2.2.1.there hal hh, h.2.2.2.2.2.2⟩) (fun r U U' V V' h1 hal h2 h => Got.mv r U U' V V' h1 hal h2 h) ?_
  intro p e s m args below meth c s₁ X0 hexec hbytes hml hret hlk hnm hown hh0 W hP
  obtain ⟨rfl, hB, f1, f2, hA, s1, hz, l0, l1, l2, hp⟩ := hP
  have a31 := hA.1.2.2.2
  have c1 : Steps p.tables e below (s₁.setTop (entryFrame m #[.ref a, .ref b, .int (Int32.ofNat o), .int (Int32.ofNat len), .null] 6)) (s₁.setTop (mkF m 0 #[.val (.ref a), .val (.ref b), .val (.int (Int32.ofNat o)), .val (.int (Int32.ofNat len)), .val .null, .unset] [])) := entry rfl
  have c2 : Steps p.tables e below (s₁.setTop (entryFrame m #[.ref a, .ref b, .int (Int32.ofNat o), .int (Int32.ofNat len), .null] 6)) (s₁.setTop (mkF m 1 #[.val (.ref a), .val (.ref b), .val (.int (Int32.ofNat o)), .val (.int (Int32.ofNat len)), .val .null, .unset] [.ref a])) := c1.trans (by
    refine XS.aloadN X0.here hexec rfl (hb hbytes d0) rfl rfl ?_
    exact Steps.refl _)
  obtain ⟨T3, X3, q3, st3⟩ := X0.oinit hexec hown (wks W (objW "java/lang/String" 1)) (g := (mkF m 1 #[.val (.ref a), .val (.ref b), .val (.int (Int32.ofNat o)), .val (.int (Int32.ofNat len)), .val .null, .unset] [.ref a])) rfl (by rw [hml]; rfl) (rest := []) rfl (hb hbytes d1) (W := 0) (by show 2 * 0 + 0 ≤ _; decide) (Nat.le_of_ble_eq_true rfl) (Nat.le_of_ble_eq_true rfl)
  have hh3 := q3.trans hh0
  have c4 : Steps p.tables e below (s₁.setTop (entryFrame m #[.ref a, .ref b, .int (Int32.ofNat o), .int (Int32.ofNat len), .null] 6)) (T3.setTop (mkF m 27 #[.val (.ref a), .val (.ref b), .val (.int (Int32.ofNat o)), .val (.int (Int32.ofNat len)), .val .null, .unset] [])) := (c2.trans (st3 _ (Steps.refl _))).trans (by
    refine XS.iloadN X3.here hexec rfl (hb hbytes d4) rfl ?_
    refine XS.ifYes X3.here hexec rfl (pc0 := 5) rfl (hb hbytes d5) rfl (i0_ne_t (nz32 (by omega) l0)) (by decide) rfl ?_
    exact Steps.refl _)
  obtain ⟨T5, X5, q5, st5⟩ := X3.sget hexec hown (wk W (.fieldLink "java/lang/String" 38 "java/lang/String" "COMPACT_STRINGS" "Z")) s1 (fun _ _ h => by rw [hh3]; exact h) (g := (mkF m 27 #[.val (.ref a), .val (.ref b), .val (.int (Int32.ofNat o)), .val (.int (Int32.ofNat len)), .val .null, .unset] [])) rfl (hb hbytes d27)
  have hh5 := q5.trans hh3
  have c6 : Steps p.tables e below (s₁.setTop (entryFrame m #[.ref a, .ref b, .int (Int32.ofNat o), .int (Int32.ofNat len), .null] 6)) (T5.setTop (mkF m 30 #[.val (.ref a), .val (.ref b), .val (.int (Int32.ofNat o)), .val (.int (Int32.ofNat len)), .val .null, .unset] [.int z])) := c4.trans (st5 _ (Steps.refl _))
  have c7 : Steps p.tables e below (s₁.setTop (entryFrame m #[.ref a, .ref b, .int (Int32.ofNat o), .int (Int32.ofNat len), .null] 6)) (T5.setTop (mkF m 36 #[.val (.ref a), .val (.ref b), .val (.int (Int32.ofNat o)), .val (.int (Int32.ofNat len)), .val .null, .unset] [.int (Int32.ofNat len), .int (Int32.ofNat o), .ref b])) := c6.trans (by
    refine XS.ifNo X5.here hexec rfl (hb hbytes d30) rfl (i0_eq_f hz) ?_
    refine XS.aloadN X5.here hexec rfl (hb hbytes d33) rfl rfl ?_
    refine XS.iloadN X5.here hexec rfl (hb hbytes d34) rfl ?_
    refine XS.iloadN X5.here hexec rfl (hb hbytes d35) rfl ?_
    exact Steps.refl _)
  obtain ⟨v8, T8, X8, E8, g8⟩ := X5.callS hexec (Cmp3.law l b A o len) hown (wks W (staticW "java/lang/String" 177 Cmp3.yN)) (wk W Cmp3.tab) (W := 0) (Nat.le_of_ble_eq_true rfl) (Nat.le_of_ble_eq_true rfl) (Nat.le_refl _) (by show 0 + len ≤ len; omega) (g := (mkF m 36 #[.val (.ref a), .val (.ref b), .val (.int (Int32.ofNat o)), .val (.int (Int32.ofNat len)), .val .null, .unset] [.int (Int32.ofNat len), .int (Int32.ofNat o), .ref b])) rfl (by rw [hml]; rfl) c7 (argsL := [.ref b, .int (Int32.ofNat o), .int (Int32.ofNat len)]) (rest := []) rfl rfl (by show 2 * 0 + 0 ≤ _; decide) (hb hbytes d36) (⟨rfl, hA.mv X5.warmed.alike hh5, l1, l2, hp⟩)
  obtain ⟨e8, z8⟩ := E8
  obtain ⟨rfl, N, n1, n2, n3, n4, n5, n6⟩ := NewArr.mv _ T5 s _ _ hh5.symm (Vm.Alike.refl _) rfl e8
  rw [hh5] at z8
  have hB1 := hB.keep X8.warmed.alike (n6 _ _ hB.1)
  have hne : s.heap.size ≠ a := (Nat.ne_of_lt (Array.getElem?_eq_some_iff.mp hB.1).1).symm
  have c9 : Steps p.tables e below (s₁.setTop (entryFrame m #[.ref a, .ref b, .int (Int32.ofNat o), .int (Int32.ofNat len), .null] 6)) (T8.setTop (mkF m 39 #[.val (.ref a), .val (.ref b), .val (.int (Int32.ofNat o)), .val (.int (Int32.ofNat len)), .val .null, .unset] [.ref s.heap.size])) := g8
  have c10 : Steps p.tables e below (s₁.setTop (entryFrame m #[.ref a, .ref b, .int (Int32.ofNat o), .int (Int32.ofNat len), .null] 6)) (T8.setTop (mkF m 45 #[.val (.ref a), .val (.ref b), .val (.int (Int32.ofNat o)), .val (.int (Int32.ofNat len)), .val .null, .val (.ref s.heap.size)] [.int (Int32.ofNat N.slots.size), .ref s.heap.size, .ref a])) := by
    have hc : Steps p.tables e below (s₁.setTop (entryFrame m #[.ref a, .ref b, .int (Int32.ofNat o), .int (Int32.ofNat len), .null] 6)) (T8.setTop (mkF m 45 #[.val (.ref a), .val (.ref b), .val (.int (Int32.ofNat o)), .val (.int (Int32.ofNat len)), .val .null, .val (.ref s.heap.size)] [.int (Int32.ofNat len), .ref s.heap.size, .ref a])) := c9.trans (by
      refine XS.astore X8.here hexec rfl (hb hbytes d39) rfl rfl rfl ?_
      refine XS.aloadN X8.here hexec rfl (hb hbytes d41) rfl rfl ?_
      refine XS.aload X8.here hexec rfl (hb hbytes d42) rfl rfl ?_
      refine XS.iloadN X8.here hexec rfl (hb hbytes d44) rfl ?_
      exact Steps.refl _)
    rw [n4]; exact hc
  obtain ⟨v11, T11, X11, E11, g11⟩ := X8.callS hexec (CodL.law l s.heap.size N) hown (wks W (staticW "java/lang/String" 47 CodL.yN)) (wk W CodL.tab) (W := 1) (Nat.le_of_ble_eq_true rfl) (Nat.le_of_ble_eq_true rfl) (Nat.le_refl _) (by show 0 + len + 0 ≤ len; omega) (g := (mkF m 45 #[.val (.ref a), .val (.ref b), .val (.int (Int32.ofNat o)), .val (.int (Int32.ofNat len)), .val .null, .val (.ref s.heap.size)] [.int (Int32.ofNat N.slots.size), .ref s.heap.size, .ref a])) rfl (by rw [hml]; rfl) c10 (argsL := [.ref s.heap.size, .int (Int32.ofNat N.slots.size)]) (rest := [.ref a]) rfl rfl (by show 2 * 0 + (1 + 0) ≤ _; decide) (hb hbytes d45) (⟨rfl, n1⟩)
  obtain ⟨rfl, q11⟩ := E11
  have hB11 := hB1.mv (X8.warmed.alike.symm.trans X11.warmed.alike) q11
  have c12 : Steps p.tables e below (s₁.setTop (entryFrame m #[.ref a, .ref b, .int (Int32.ofNat o), .int (Int32.ofNat len), .null] 6)) (T11.setTop (mkF m 48 #[.val (.ref a), .val (.ref b), .val (.int (Int32.ofNat o)), .val (.int (Int32.ofNat len)), .val .null, .val (.ref s.heap.size)] [.int 0, .ref a])) := g11
  obtain ⟨T13, X13, p13, bl13, sl13, st13⟩ := X11.finit hexec hown (wk W (.fieldLink "java/lang/String" 15 "java/lang/String" "coder" "B")) (Or.inr ⟨_, (wk W (.laysFinal "java/lang/String" "java/lang/String" "coder" "B"))⟩) (Or.inl ⟨rfl, hnm⟩) f2 (Or.inl rfl) hB11 (t := .byte) (by decide +kernel) rfl (g := (mkF m 48 #[.val (.ref a), .val (.ref b), .val (.int (Int32.ofNat o)), .val (.int (Int32.ofNat len)), .val .null, .val (.ref s.heap.size)] [.int 0, .ref a])) rfl (rest := []) rfl (hb hbytes d48)
  have c14 : Steps p.tables e below (s₁.setTop (entryFrame m #[.ref a, .ref b, .int (Int32.ofNat o), .int (Int32.ofNat len), .null] 6)) (T13.setTop (mkF m 54 #[.val (.ref a), .val (.ref b), .val (.int (Int32.ofNat o)), .val (.int (Int32.ofNat len)), .val .null, .val (.ref s.heap.size)] [.ref s.heap.size, .ref a])) := (c12.trans (st13 _ (Steps.refl _))).trans (by
    refine XS.aloadN X13.here hexec rfl (hb hbytes d51) rfl rfl ?_
    refine XS.aload X13.here hexec rfl (hb hbytes d52) rfl rfl ?_
    exact Steps.refl _)
  obtain ⟨T15, X15, p15, bl15, sl15, st15⟩ := X13.finit hexec hown (wk W (.fieldLink "java/lang/String" 9 "java/lang/String" "value" "[B")) (Or.inr ⟨_, (wk W (.laysFinal "java/lang/String" "java/lang/String" "value" "[B"))⟩) (Or.inl ⟨rfl, hnm⟩) f1 (Or.inl rfl) bl13 (t := (.array .byte)) (by decide +kernel) rfl (g := (mkF m 54 #[.val (.ref a), .val (.ref b), .val (.int (Int32.ofNat o)), .val (.int (Int32.ofNat len)), .val .null, .val (.ref s.heap.size)] [.ref s.heap.size, .ref a])) rfl (rest := []) rfl (hb hbytes d54)
  have c16 : Steps p.tables e below (s₁.setTop (entryFrame m #[.ref a, .ref b, .int (Int32.ofNat o), .int (Int32.ofNat len), .null] 6)) (T15.setTop (mkF m 57 #[.val (.ref a), .val (.ref b), .val (.int (Int32.ofNat o)), .val (.int (Int32.ofNat len)), .val .null, .val (.ref s.heap.size)] [])) := c14.trans (st15 _ (Steps.refl _))
  have ap := apart (Or.inr ⟨_, (wk W (.laysFinal "java/lang/String" "java/lang/String" "value" "[B"))⟩) (Or.inr ⟨_, (wk W (.laysFinal "java/lang/String" "java/lang/String" "coder" "B"))⟩) f1 f2 (t₁ := .array .byte) (t₂ := .byte) (by decide +kernel) (by decide +kernel) (by decide)
  have al := X8.warmed.alike.symm.trans X15.warmed.alike
  have n7 : T11.heap[s.heap.size]? = some N := by rw [q11]; exact n1.1
  exact ⟨T15, none, _, _, _, X15, by simp, rfl, by omega, (fun _ => rfl), ⟨rfl, _, N, bl15, ((Same.refl D _).set _ (by simp)).set _ (by simp), sl15, (Cell.slots_setSlot_ne _ ap).trans sl13, n1.keep al (p15.other hne (p13.other hne n7)), n2, by rw [al.findClass]; exact n3, n4, n5, fun y c h1 h2 => p15.other h1 (p13.other h1 (by rw [q11]; exact n6 y c h2)), by rw [p15.2.2, p13.2.2, q11]; exact z8⟩, fun fs hl => c16.trans (X15.returnOut hexec hret (hb hbytes d57) hl)⟩
end New4
namespace New1
def yN : MethodName := ⟨"java/lang/String", "<init>", "([C)V"⟩
abbrev yB : ByteArray := jdk_42_method_3_code
theorem d0 : decode yB 0 = .ok (.aload_n 0, 1) := by decide +kernel
theorem d1 : decode yB 1 = .ok (.aload_n 1, 1) := by decide +kernel
theorem d2 : decode yB 2 = .ok (.iconst 0, 1) := by decide +kernel
theorem d3 : decode yB 3 = .ok (.aload_n 1, 1) := by decide +kernel
theorem d4 : decode yB 4 = .ok (.arraylength, 1) := by decide +kernel
theorem d5 : decode yB 5 = .ok (.aconst_null, 1) := by decide +kernel
theorem d6 : decode yB 6 = .ok (.invokespecial 27, 3) := by decide +kernel
theorem d9 : decode yB 9 = .ok (.return_, 1) := by decide +kernel
def site : List Cond := [New4.tab] ++ initW "java/lang/String" 27 New4.yN
def tab : Cond := tabOf yN yB 2 none site
def P (a : Addr) (D : Cell) (fV fC : Field) (b : Addr) (A : Cell) (z : Int32) (args : Array Value) (s : State) : Prop := args = #[.ref a, .ref b] ∧ Blank "java/lang/String" a D s ∧ Found "java/lang/String" "value" "[B" fV s ∧ Found "java/lang/String" "coder" "B" fC s ∧ Ch b A s ∧ StaticIs s "java/lang/String" "COMPACT_STRINGS" "Z" (.int z) ∧ ¬ z = 0 ∧ 0 < A.slots.size ∧ A.slots.size ≤ 536870912 ∧ ∀ i, i < A.slots.size → ¬ 255 < cv A i
def E (a : Addr) (D : Cell) (fV fC : Field) (A : Cell) (r : Option Value) (s u : State) : Prop := Got a D fV fC A 0 A.slots.size r s u
/-- new String(chars), not empty, no char above 255: a Latin-1 String of their low bytes -/
theorem law (l : Launch) (a : Addr) (D : Cell) (fV fC : Field) (b : Addr) (A : Cell) (z : Int32) : Law l yN 2 1 3 52 yB 2 none site (P a D fV fC b A z) (E a D fV fC A) [⟨a, fC.slot⟩, ⟨a, fV.slot⟩] 1 A.slots.size := by
  refine Law.of_walk (plainFor_of_name (by decide +kernel)) (by decide +kernel) (by decide +kernel) (by decide) (fun _ _ h => by rw [h.1]; rfl) (fun _ U U' hal hh h => ⟨h.1, h.2.1.mv hal hh, h.2.2.1.al hal, h.2.2.2.1.al hal, h.2.2.2.2.1.mv hal hh, h.2.2.2.2.2.1.there hal hh, h.2.2.2.2.2.2⟩) (fun r U U' V V' h1 hal h2 h => Got.mv r U U' V V' h1 hal h2 h) ?_
  intro p e s m args below meth c s₁ X0 hexec hbytes hml hret hlk hnm hown hh0 W hP
  obtain ⟨rfl, hB, f1, f2, hA, s1, hz, l0, l2, hp⟩ := hP
  have c1 : Steps p.tables e below (s₁.setTop (entryFrame m #[.ref a, .ref b] 2)) (s₁.setTop (mkF m 0 #[.val (.ref a), .val (.ref b)] [])) := entry rfl
  have c2 : Steps p.tables e below (s₁.setTop (entryFrame m #[.ref a, .ref b] 2)) (s₁.setTop (mkF m 6 #[.val (.ref a), .val (.ref b)] [.null, .int (Int32.ofNat A.slots.size), .int 0, .ref b, .ref a])) := c1.trans (by
    refine XS.aloadN X0.here hexec rfl (hb hbytes d0) rfl rfl ?_
    refine XS.aloadN X0.here hexec rfl (hb hbytes d1) rfl rfl ?_
    refine iconstV X0.here hexec rfl 0 (hb hbytes d2) (by decide) ?_
    refine XS.aloadN X0.here hexec rfl (hb hbytes d3) rfl rfl ?_
    refine X0.alen hexec (hA.1.mv X0.warmed.alike hh0) rfl rfl (hb hbytes d4) ?_
    refine XS.aconstNull X0.here hexec rfl (hb hbytes d5) ?_
    exact Steps.refl _)
  obtain ⟨v3, T3, X3, E3, g3⟩ := X0.callN hexec (New4.law l a D fV fC b A z 0 A.slots.size) rfl hown (wks W (initW "java/lang/String" 27 New4.yN)) (W New4.tab (by simp only [site, List.mem_cons, List.mem_append, true_or, or_true])) (W := 0) (Nat.le_of_ble_eq_true rfl) (Nat.le_of_ble_eq_true rfl) (Nat.le_refl _) (by show 0 + A.slots.size ≤ A.slots.size; omega) (g := (mkF m 6 #[.val (.ref a), .val (.ref b)] [.null, .int (Int32.ofNat A.slots.size), .int (Int32.ofNat 0), .ref b, .ref a])) rfl (by rw [hml]; rfl) c2 (argsL := [.ref b, .int (Int32.ofNat 0), .int (Int32.ofNat A.slots.size), .null]) (rest := []) rfl rfl (by show 2 * 0 + 0 ≤ _; decide) (hb hbytes d6) (⟨rfl, hB.mv X0.warmed.alike hh0, f1.al X0.warmed.alike, f2.al X0.warmed.alike, hA.mv X0.warmed.alike hh0, s1.there X0.warmed.alike hh0, hz, l0, by omega, l2, fun i hi => by rw [Nat.zero_add]; exact hp i hi⟩)
  have e0 := Got.mv _ s₁ s _ _ hh0.symm (Vm.Alike.refl _) rfl E3
  obtain rfl := e0.1
  have c4 : Steps p.tables e below (s₁.setTop (entryFrame m #[.ref a, .ref b] 2)) (T3.setTop (mkF m 9 #[.val (.ref a), .val (.ref b)] [])) := g3
  exact ⟨T3, none, _, _, _, X3, by simp, rfl, by omega, (fun _ => rfl), e0, fun fs hl => c4.trans (X3.returnOut hexec hret (hb hbytes d9) hl)⟩
theorem pays {l : Launch} {R : Room} {p : Program} {e : Env} {below : List Frame} {s : State} {sargs : Array Value} {len W : Nat} (a : Addr) (D : Cell) (fV fC : Field) (b : Addr) (A : Cell) (z : Int32) (htab : tab.before sargs s = true) (hfr : 4 ≤ R.frames) (hlo : W + 65 ≤ R.locals) :
    Back l R p e below s sargs yN len W (fun A₁ a₁ => A₁.cells + 1 ≤ R.cells ∧ A₁.slots + A.slots.size ≤ R.slots ∧ P a D fV fC b A z a₁ A₁.U) (fun A₁ _ v₁ B₁ => E a D fV fC A v₁ A₁.U B₁.U ∧ B₁.locs = A₁.locs ++ [⟨a, fC.slot⟩, ⟨a, fV.slot⟩] ∧ B₁.cells = A₁.cells + 1 ∧ B₁.slots = A₁.slots + A.slots.size) :=
  (law l a D fV fC b A z).pays htab hfr (by omega)
end New1
end StrChars
namespace StrChars.Road
open Jvm Sem ClassFile Op Lib Jvm.Stand Jvm.Free Jvm.Free.XT
open Jvm.Lib.Cold (StaticIs)
abbrev ST : String := "java/lang/String"
/-- every table word that New1's law asks, flat -/
abbrev words : List Jvm.Cond := [.code New1.yN New1.yB 2 none, .initialized ST, .methodLink ST 27 New4.yN, .instanceMethod New4.yN,
  .code New4.yN New4.yB 6 none, .fieldLink ST 38 ST "COMPACT_STRINGS" "Z", .laysFinal ST ST "value" "[B", .fieldLink ST 9 ST "value" "[B", .laysFinal ST ST "coder" "B", .fieldLink ST 15 ST "coder" "B",
  .methodLink ST 1 Lib.objectInit, .instanceMethod Lib.objectInit, .code Lib.objectInit ⟨#[0xb1]⟩ 1 none, .methodLink ST 177 Cmp3.yN, .static Cmp3.yN, .methodLink ST 47 CodL.yN, .static CodL.yN,
  .code Cmp3.yN Cmp3.yB 6 (some (.array .byte)), .initialized U16, .arrayClass .byte, .methodLink U16 115 Cmp5.yN, .static Cmp5.yN, .code Cmp5.yN Cmp5.yB 7 (some .int), .code CodL.yN CodL.yB 2 (some .byte)]
theorem tab_of {a : Array Value} {s : State} (h : ∀ w ∈ words, w.before a s = true) : New1.tab.before a s = true := by
  have h5 : Cmp5.tab.before a s = true := unparts (wk h (.code Cmp5.yN Cmp5.yB 7 (some .int))) (wks h (.initialized Cmp5.yN.cls :: Cmp5.site))
  have hc : CodL.tab.before a s = true := unparts (wk h (.code CodL.yN CodL.yB 2 (some .byte))) (wks h (.initialized CodL.yN.cls :: CodL.site))
  have q5 : ∀ w ∈ Cmp5.tab :: words, w.before a s = true := fun w hw => (List.mem_cons.mp hw).elim (fun e => e ▸ h5) (h w)
  have h3 : Cmp3.tab.before a s = true := unparts (wk q5 (.code Cmp3.yN Cmp3.yB 6 (some (.array .byte)))) (wks q5 (.initialized Cmp3.yN.cls :: Cmp3.site))
  have q3 : ∀ w ∈ Cmp3.tab :: CodL.tab :: words, w.before a s = true := fun w hw => (List.mem_cons.mp hw).elim (fun e => e ▸ h3) fun hw => (List.mem_cons.mp hw).elim (fun e => e ▸ hc) (h w)
  have h4 : New4.tab.before a s = true := unparts (wk q3 (.code New4.yN New4.yB 6 none)) (wks q3 (.initialized New4.yN.cls :: New4.site))
  have q4 : ∀ w ∈ New4.tab :: words, w.before a s = true := fun w hw => (List.mem_cons.mp hw).elim (fun e => e ▸ h4) (h w)
  exact unparts (wk q4 (.code New1.yN New1.yB 2 none)) (wks q4 (.initialized New1.yN.cls :: New1.site))
/-- the words ride from the start Z to the walk's own state -/
theorem moved {Z s : State} {a0 args : Array Value} (hZ : Z.Warmed39 s.vm) (hw : ∀ d ∈ words, d.before a0 Z = true) : ∀ d ∈ words, d.before args s = true := fun d hd => by
  have q := hw d hd
  have t : ∀ d ∈ words, d = .arrayClass .byte ∨ (d.onTables && d.keepsFace) = true := by decide +kernel
  rcases t d hd with rfl | t
  · exact RoadKit.mvA hZ q
  · exact RoadKit.mv hZ q t
/-- WHAT COMES BACK, over the tables of the start Z: h the heap at the call, h' behind it -/
def Q (Z : State) (x : Addr) (A : Cell) (h : Heap) (v : Option Value) (h' : Heap) (L : List Loc) : Prop := v = none ∧ (∀ y ∈ L, y.base = x) ∧ RoadKit.Keep h h' [x] ∧ h'.size = h.size + 1 ∧ RoadKit.Exa Z h' x ST ∧ RoadKit.Fld Z h' x ST "value" "[B" (.ref h.size) ∧ RoadKit.Fld Z h' x ST "coder" "B" (.int 0) ∧
  (∃ V : Cell, RoadKit.Arr Z h' h.size V .byte ∧ V.vm = .none ∧ Z.vm.findClass "[B" = some V.cls ∧ V.slots.size = A.slots.size ∧ ∀ j, j < A.slots.size → V.slots[j]? = some (.int (lo8 (cv A j)))) ∧
  ∀ (O n d : String) (w : Value), RoadKit.Fld Z h x O n d w → RoadKit.slotOf Z O n d ≠ RoadKit.slotOf Z ST "value" "[B" → RoadKit.slotOf Z O n d ≠ RoadKit.slotOf Z ST "coder" "B" → RoadKit.Fld Z h' x O n d w
/-- **new String(chars) AT A CALL, IN THE ROAD'S FORM**: for specialBack behind newO: x the fresh String, b the char[] with the cell A -/
theorem back {p : Program} {l : Launch} {e : Env} {R : Room} {s : State} {args : Array Value} {below : List Frame} {len W : Nat} {Z : State} {a0 : Array Value} {h : Heap} (hZ : Z.Warmed39 s.vm) (hw : ∀ d ∈ words, d.before a0 Z = true) {kI : Nat} (wi : (Jvm.Cond.instantiable ST kI).before a0 Z = true)
    {x b : Addr} {A : Cell} {z : Int32} {v0 c0 : Value} (E : RoadKit.Exa Z h x ST) (V : RoadKit.Fld Z h x ST "value" "[B" v0) (C : RoadKit.Fld Z h x ST "coder" "B" c0) (K : RoadKit.Arr Z h b A .char) (hty : Typed .char A) (S : RoadKit.Sta Z h ST "COMPACT_STRINGS" "Z" (.int z)) (hz : ¬ z = 0)
    (l0 : 0 < A.slots.size) (l2 : A.slots.size ≤ 536870912) (hp : ∀ i, i < A.slots.size → ¬ 255 < cv A i) (hfr : 4 ≤ R.frames) (hlo : W + 65 ≤ R.locals) :
    Back l R p e below s args New1.yN len W (fun P a => a = #[.ref x, .ref b] ∧ P.U.heap = h ∧ P.cells + 1 ≤ R.cells ∧ P.slots + A.slots.size ≤ R.slots)
      (fun P _ v B => ∃ L, Q Z x A h v B.U.heap L ∧ B.locs = P.locs ++ L ∧ B.cells = P.cells + 1 ∧ B.slots = P.slots + A.slots.size) := by
  intro m meth c P g ig mk a X hg hsize hdg hW hn hp'
  obtain ⟨rfl, rfl, r1, r2⟩ := hp'
  have al : Z.vm.Alike P.U.vm := hZ.alike.trans X.warmed.alike
  obtain ⟨D, cfV, kV, iV, fV, hD, gV, stV, knV, obV, asV, slV⟩ := id V
  obtain ⟨D', cfC, kC, iC, fC, hD', gC, stC, -, -, asC, slC⟩ := id C
  cases hD.symm.trans hD'
  obtain ⟨D2, kD, e1, e2, e3, e4, e5⟩ := id E
  cases hD.symm.trans e1
  obtain ⟨c2, k2, i1, i2, i3, -⟩ := Cond.instantiable_spec wi
  cases e2.symm.trans i1
  cases e3.symm.trans i2
  obtain ⟨kU, u1, u2⟩ := al.2.2 _ _ e3
  have hB : Blank ST x D P.U := ⟨hD, ⟨knV, fun q hq => by rw [hq] at obV; cases obV⟩, by rw [al.findClass]; exact e2, kU, u1, by rw [u2]; exact i3, by rw [u2]; exact e5 i3⟩
  have F1 : Found ST "value" "[B" fV P.U := ⟨SBG.found_only al ⟨cfV, kV, iV, gV⟩, stV⟩
  have F2 : Found ST "coder" "B" fC P.U := ⟨SBG.found_only al ⟨cfC, kC, iC, gC⟩, stC⟩
  have hA : Ch b A P.U := ⟨⟨K.1, State.isArrayOf_alike al K.2.1, K.2.2, by omega⟩, hty⟩
  have hS : StaticIs P.U ST "COMPACT_STRINGS" "Z" (.int z) := by
    obtain ⟨cfS, iS, kS, fS, st, cS, t1, t2, t3, t4, t5, t6, t7⟩ := S
    exact StaticIs.there (s := { Z with heap := P.U.heap }) ⟨cfS, iS, kS, fS, st, cS, t1, t2, t3, t4, t5, (fun q => by rw [q] at t6; cases t6), t7⟩ al rfl
  obtain ⟨v, B, X', ⟨⟨hv, E', V', q1, q2, q3, q4, q5, q6, q7, q8, q9, q10, q11⟩, hl, hc, hs⟩, st⟩ := New1.pays x D fV fC b A z (tab_of (moved hZ hw)) hfr hlo m meth c P g ig mk _ X hg hsize hdg hW hn ⟨r1, r2, rfl, hB, F1, F2, hA, hS, hz, l0, l2, hp⟩
  have al' : Z.vm.Alike B.U.vm := hZ.alike.trans X'.warmed.alike
  have hsz : E'.slots.size = D.slots.size := by
    obtain ⟨-, -, -, kB, w1, w2, w3⟩ := q1
    obtain ⟨kB', y1, y2⟩ := al'.2.2 _ _ e3
    rw [q2.2.1] at w1
    cases w1.symm.trans y1
    rw [w3, e5 i3, y2]
  refine ⟨v, B, X', ⟨_, ⟨hv, ?_, ⟨by omega, fun y cy hy hn' => q10 y cy (by simpa using hn') hy, fun y cy hy => ?_⟩, q11, ⟨E', _, q1.1, by rw [q2.2.1]; exact e2, by rw [q2.2.1]; exact e3, by rw [q2.1]; exact obV, fun _ => by rw [hsz]; exact e5 i3⟩,
    ⟨E', cfV, kV, iV, fV, q1.1, gV, stV, by rw [q2.1]; exact knV, by rw [q2.1]; exact obV, by rw [q2.2.1]; exact asV, q3⟩, ⟨E', cfC, kC, iC, fC, q1.1, gC, stC, by rw [q2.1]; exact knV, by rw [q2.1]; exact obV, by rw [q2.2.1]; exact asC, q4⟩,
    ⟨V', ⟨q5.1, State.isArrayOf_alike al'.symm q5.2.1, q5.2.2.1⟩, q6, by rw [← al'.findClass]; exact q7, q8, fun j hj => by have := q9 j hj; rwa [Nat.zero_add] at this⟩, fun O n d w F n1 n2 => ?_⟩, hl, hc, hs⟩, st⟩
  · intro y hy
    simp only [List.mem_cons, List.not_mem_nil, or_false] at hy
    rcases hy with rfl | rfl <;> rfl
  · by_cases q : y = x
    · subst q
      cases hD.symm.trans hy
      exact ⟨E', q1.1, q2.2.1, q2.1, hsz⟩
    · exact ⟨cy, q10 y cy q hy, rfl, rfl, rfl⟩
  · obtain ⟨D3, cf, k, i, f, g1, g2, g3, g4, g5, g6, g7⟩ := F
    cases hD.symm.trans g1
    simp only [RoadKit.slotOf, g2, gV, gC, Option.map_some, Option.getD_some] at n1 n2
    exact ⟨E', cf, k, i, f, q1.1, g2, g3, by rw [q2.1]; exact g4, by rw [q2.1]; exact g5, by rw [q2.2.1]; exact g6, by rw [q2.2.2 f.slot (by simp [n1, n2])]; exact g7⟩
end StrChars.Road
namespace StrChars.Road
open Jvm Sem ClassFile Op Lib Jvm.Stand Jvm.Free Jvm.Free.XT
/-- WHAT COMES BACK, the byte[] as a list of values -/
def QA (Z : State) (x : Addr) (zn : Int32) (cs : List Int32) (h : Heap) (v : Option Value) (h' : Heap) (L : List Loc) : Prop := v = none ∧ (∀ y ∈ L, y.base = x) ∧ RoadKit.Keep h h' [x] ∧ h'.size = h.size + 1 ∧ RoadKit.Exa Z h' x ST ∧ RoadKit.Fld Z h' x ST "value" "[B" (.ref h.size) ∧ RoadKit.Fld Z h' x ST "coder" "B" (.int 0) ∧
  (∃ kb, Z.vm.findClass "[B" = some kb ∧ RoadKit.Arv Z h' h.size kb .byte zn (cs.map fun c => .int (lo8 c)) (.int 0)) ∧
  ∀ (O n d : String) (w : Value), RoadKit.Fld Z h x O n d w → RoadKit.slotOf Z O n d ≠ RoadKit.slotOf Z ST "value" "[B" → RoadKit.slotOf Z O n d ≠ RoadKit.slotOf Z ST "coder" "B" → RoadKit.Fld Z h' x O n d w
/-- **new String(chars) AT A CALL, THE ARRAYS AS LISTS**: the char[] at b holds cs, not empty, no char above 255 -/
theorem backArv {p : Program} {l : Launch} {e : Env} {R : Room} {s : State} {args : Array Value} {below : List Frame} {len W : Nat} {Z : State} {a0 : Array Value} {h : Heap} (hZ : Z.Warmed39 s.vm) (hw : ∀ d ∈ words, d.before a0 Z = true) {kI : Nat} (wi : (Jvm.Cond.instantiable ST kI).before a0 Z = true)
    {x b : Addr} {k : ClassId} {zn z : Int32} {cs : List Int32} {dv v0 c0 : Value} (E : RoadKit.Exa Z h x ST) (V : RoadKit.Fld Z h x ST "value" "[B" v0) (C : RoadKit.Fld Z h x ST "coder" "B" c0) (K : RoadKit.Arv Z h b k .char zn (cs.map Value.int) dv) (S : RoadKit.Sta Z h ST "COMPACT_STRINGS" "Z" (.int z)) (hz : ¬ z = 0)
    (hlen : zn.toNatClampNeg = cs.length) (h0 : 0 < cs.length) (hbig : cs.length ≤ 536870912) (hall : ∀ c ∈ cs, ¬ 255 < c) (hfr : 4 ≤ R.frames) (hlo : W + 65 ≤ R.locals) :
    Back l R p e below s args New1.yN len W (fun P a => a = #[.ref x, .ref b] ∧ P.U.heap = h ∧ P.cells + 1 ≤ R.cells ∧ P.slots + cs.length ≤ R.slots)
      (fun P _ v B => ∃ L, QA Z x zn cs h v B.U.heap L ∧ B.locs = P.locs ++ L ∧ B.cells = P.cells + 1 ∧ B.slots = P.slots + cs.length) := by
  obtain ⟨A, K1, K2, K3, K4, K5, K6⟩ := K
  have e : A.slots.size = cs.length := K3.trans hlen
  have hat : ∀ (i : Nat) (hi : i < cs.length), A.slots[i]? = some (.int cs[i]) := fun i hi => by rw [K5 i (by omega)]; simp [List.getD_eq_getElem?_getD, hi]
  have hcv : ∀ (i : Nat) (hi : i < cs.length), cv A i = cs[i] := fun i hi => by unfold cv; rw [hat i hi]
  have hty : Typed .char A := fun i v hv => by
    have hi : i < A.slots.size := (Array.getElem?_eq_some_iff.mp hv).1
    have q := K5 i hi
    rw [hv] at q
    rw [Option.some.inj q]
    exact K6 i hi
  refine Back.mono (back hZ hw wi E V C K1 hty S hz (by omega) (by omega) (fun i hi => by rw [hcv i (by omega)]; exact hall _ (List.getElem_mem _)) hfr hlo) (fun P a hp => ⟨hp.1, hp.2.1, hp.2.2.1, by rw [e]; exact hp.2.2.2⟩) (fun P a v B hp hq => ?_)
  obtain ⟨L, ⟨q1, q2, q3, q4, q5, q6, q7, ⟨V', v1, v2, v3, v4, v5⟩, q9⟩, hl, hc, hs⟩ := hq
  refine ⟨L, ⟨q1, q2, q3, q4, q5, q6, q7, ⟨V'.cls, v3, V', v1, rfl, by rw [v4, e, hlen], K4, fun i hi => ?_, fun i hi => ?_⟩, q9⟩, hl, hc, by rw [hs, e]⟩
  · have hi' : i < cs.length := by omega
    rw [v5 i (by omega), hcv i hi']; simp [List.getD_eq_getElem?_getD, hi']
  · have hi' : i < cs.length := by omega
    simp only [List.getD_eq_getElem?_getD, List.getElem?_map, List.getElem?_eq_getElem hi', Option.map_some, Option.getD_some]
    exact fits_lo8 _
end StrChars.Road
namespace StrChars.Road
open Jvm Sem ClassFile Op Lib Jvm.Stand Jvm.Free Jvm.Free.XT
/-- WHAT COMES BACK, in the writer's own shape -/
def QV (Z : State) (x : Addr) (N : Int32) (bs : List Int32) (h : Heap) (n0 : Nat) (v : Option Value) (h' : Heap) (L : List Loc) : Prop := v = none ∧ RoadKit.Fr n0 L ∧ RoadKit.Keep h h' [x] ∧ RoadKit.Exa Z h' x ST ∧ RoadKit.Fld Z h' x ST "coder" "B" (.int 0) ∧
  ∃ (t : Addr) (kb : ClassId), n0 ≤ t ∧ h.size ≤ t ∧ ¬ t = x ∧ RoadKit.Fld Z h' x ST "value" "[B" (.ref t) ∧ RoadKit.Arv Z h' t kb .byte N (bs.map Value.int) (.int 0)
/-- **new String(chars) AT A CALL, FOR THE WRITER**: a char[] of n known ints, each 0 to 255 -/
theorem backV {p : Program} {l : Launch} {e : Env} {R : Room} {s : State} {args : Array Value} {below : List Frame} {len W : Nat} {Z : State} {a0 : Array Value} {h : Heap} (hZ : Z.Warmed39 s.vm) (hw : ∀ d ∈ words, d.before a0 Z = true) {kI : Nat} (wi : (Jvm.Cond.instantiable ST kI).before a0 Z = true)
    {x b : Addr} {kC : ClassId} {cs bs : List Int32} {d v0 c0 : Value} {z N : Int32} {n n0 : Nat} (hx0 : n0 ≤ x) (hh0 : n0 ≤ h.size) (E : RoadKit.Exa Z h x ST) (V : RoadKit.Fld Z h x ST "value" "[B" v0) (C : RoadKit.Fld Z h x ST "coder" "B" c0) (K : RoadKit.Arv Z h b kC .char N (cs.map Value.int) d) (S : RoadKit.Sta Z h ST "COMPACT_STRINGS" "Z" (.int z)) (hz : ¬ z = 0)
    (hn : cs.length = n) (hN : N = Int32.ofNat n) (l0 : 0 < n) (l2 : n ≤ 4000) (hp : ∀ c ∈ cs, ¬ c < 0 ∧ ¬ (255 : Int32) < c) (hb : bs = cs.map (fun c => c.toInt8.toInt32)) (hfr : 4 ≤ R.frames) (hlo : W + 65 ≤ R.locals) :
    Back l R p e below s args (⟨"java/lang/String", "<init>", "([C)V"⟩ : MethodName) len W (fun P a => a = #[.ref x, .ref b] ∧ P.U.heap = h ∧ P.cells + 1 ≤ R.cells ∧ P.slots + n ≤ R.slots)
      (fun P _ v B => ∃ L, QV Z x N bs h n0 v B.U.heap L ∧ B.locs = P.locs ++ L ∧ B.cells = P.cells + 1 ∧ B.slots = P.slots + n) := by
  subst hn hN hb
  refine Back.mono (backArv hZ hw wi E V C K S hz (n32 (by omega)) l0 (by omega) (fun c hc => (hp c hc).2) hfr hlo) (fun P a hp => hp) (fun P a v B hp hq => ?_)
  obtain ⟨L, ⟨q1, q2, q3, q4, q5, q6, q7, ⟨kb, v1, v2⟩, q9⟩, hl, hc, hs⟩ := hq
  exact ⟨L, ⟨q1, fun y hy => by rw [q2 y hy]; exact hx0, q3, q5, q7, h.size, kb, hh0, Nat.le_refl _, Nat.ne_of_gt E.lt, q6, by rw [List.map_map]; exact v2⟩, hl, hc, hs⟩
end StrChars.Road
end Jvm.Pilot.@@N@@

namespace Jvm.Pilot.@@N@@
open Jvm Jvm.ClassFile Sem Op Lib Jvm.Free Jvm.Stand Jvm.LawKit Jvm.RoadKit Bundle Jvm.Pilot.@@N@@.Jvm.D
section Own
variable {p : Program} {l : Launch} {e : Env} {R : Room} {s : State} {m : MethodId} {args : Array Value} {below : List Frame} {meth : Method} {c : Code} {T T' : State} {locs : List Loc} {cells slots : Nat} {Z : State} {h h' : Heap} {P : Option Value → Heap → List Loc → Prop} {cm sm : Nat} {g g' : JFrame}
/-- from where the walk stands the body comes to its end, and P says what it leaves -/
def own_Go (p : Program) (e : Env) (below : List Frame) (s : State) (P : Option Value → Heap → List Loc → Prop) (cm sm : Nat) (T : State) (g : JFrame) : Prop :=
  ∃ s₂ o, Steps p.tables e below (T.setTop g) s₂ ∧ s₂.status = .running ∧ Ended s₂ below o ∧ ∃ v L, o = .returned v ∧ P v s₂.heap L ∧ FrameEnd s o s₂ L cm sm
theorem own_st (st : ∀ t, Steps p.tables e below (T'.setTop g') t → Steps p.tables e below (T.setTop g) t) (k : own_Go p e below s P cm sm T' g') : own_Go p e below s P cm sm T g := by
  obtain ⟨s₂, o, h1, h2⟩ := k; exact ⟨s₂, o, st _ h1, h2⟩
theorem own_tr (st : Steps p.tables e below (T.setTop g) (T'.setTop g')) (k : own_Go p e below s P cm sm T' g') : own_Go p e below s P cm sm T g := own_st (fun _ q => st.trans q) k
theorem own_out (X : Stand p l e R s m args below meth c T locs cells slots) {v : Option Value} (hv : meth.sig.returnType = none → v = none) (hlk : meth.locks = false) (eT : T.heap = h)
    (hret : ∀ fs, (∀ (f : JFrame) (acts : List Action), f.method = m → f.locked = none → f.entered = [] → (doReturn e (T.setTop f) acts v).1 = T.setFrames fs) → Steps p.tables e below (T.setTop g) (T.setFrames fs))
    (hP : P v h locs) (hc : cells ≤ cm) (hs : slots ≤ sm) : own_Go p e below s P cm sm T g := by
  obtain ⟨fs, hr, hrun, hended, hW, hsame⟩ := X.leave hv hlk
  subst eT
  exact ⟨_, _, hret fs hr, hrun, hended, v, locs, rfl, hP, ⟨_, rfl⟩, hW, hsame.mono hc hs⟩
theorem own_retI (X : Stand p l e R s m args below meth c T locs cells slots) (hx : p.tables.exec = Jvm.exec) (hret : meth.sig.returnType = some .int) (hlk : meth.locks = false) (eT : T.heap = h) {pc : Nat} {Ls : Array Slot} {z : Int32} {rest : List Value} (hd : decode c.code pc = .ok (.ireturn, 1))
    (hP : P (some (.int z)) h locs) (hc : cells ≤ cm) (hs : slots ≤ sm) : own_Go p e below s P cm sm T (mkF m pc Ls (.int z :: rest)) :=
  own_out X (fun q => by rw [hret] at q; cases q) hlk eT (fun fs hr => retOut X hx hret rfl (Or.inl ⟨rfl, Or.inl rfl, z, rfl⟩) hd hr) hP hc hs
theorem own_retN (X : Stand p l e R s m args below meth c T locs cells slots) (hx : p.tables.exec = Jvm.exec) {t : FieldType} (hret : meth.sig.returnType = some t) (hlk : meth.locks = false) (eT : T.heap = h) (ht : t = .boolean ∨ t = .byte ∨ t = .char ∨ t = .short) {pc : Nat} {Ls : Array Slot} {z : Int32} {rest : List Value} (hd : decode c.code pc = .ok (.ireturn, 1))
    (hP : P (some (.int (nar t z))) h locs) (hc : cells ≤ cm) (hs : slots ≤ sm) : own_Go p e below s P cm sm T (mkF m pc Ls (.int z :: rest)) :=
  own_out X (fun q => by rw [hret] at q; cases q) hlk eT (fun fs hr => retN X hx hret ht hd hr) hP hc hs
theorem own_retJ (X : Stand p l e R s m args below meth c T locs cells slots) (hx : p.tables.exec = Jvm.exec) (hret : meth.sig.returnType = some .long) (hlk : meth.locks = false) (eT : T.heap = h) {pc : Nat} {Ls : Array Slot} {z : Int64} {rest : List Value} (hd : decode c.code pc = .ok (.lreturn, 1))
    (hP : P (some (.long z)) h locs) (hc : cells ≤ cm) (hs : slots ≤ sm) : own_Go p e below s P cm sm T (mkF m pc Ls (.long z :: rest)) :=
  own_out X (fun q => by rw [hret] at q; cases q) hlk eT (fun fs hr => retOut X hx hret rfl (Or.inr (Or.inl ⟨rfl, rfl, z, rfl⟩)) hd hr) hP hc hs
theorem own_retR (X : Stand p l e R s m args below meth c T locs cells slots) (hx : p.tables.exec = Jvm.exec) {t : FieldType} (hret : meth.sig.returnType = some t) (hlk : meth.locks = false) (eT : T.heap = h) (ht : t.isReference = true) {pc : Nat} {Ls : Array Slot} {w : Value} (hw : w.isRef = true) {rest : List Value} (hd : decode c.code pc = .ok (.areturn, 1))
    (hP : P (some w) h locs) (hc : cells ≤ cm) (hs : slots ≤ sm) : own_Go p e below s P cm sm T (mkF m pc Ls (w :: rest)) :=
  own_out X (fun q => by rw [hret] at q; cases q) hlk eT (fun fs hr => retOut X hx hret (by cases t <;> cases w <;> first | rfl | (simp [Value.isRef] at hw; done) | (simp [FieldType.isReference] at ht; done)) (Or.inr (Or.inr (Or.inr (Or.inr ⟨rfl, ht, hw⟩)))) hd hr) hP hc hs
theorem own_ret0 (X : Stand p l e R s m args below meth c T locs cells slots) (hx : p.tables.exec = Jvm.exec) (hret : meth.sig.returnType = none) (hlk : meth.locks = false) (eT : T.heap = h) {pc : Nat} {Ls : Array Slot} (hd : decode c.code pc = .ok (.return_, 1))
    (hP : P none h locs) (hc : cells ≤ cm) (hs : slots ≤ sm) : own_Go p e below s P cm sm T (mkF m pc Ls []) :=
  own_out X (fun _ => rfl) hlk eT (fun fs hr => X.returnOut hx hret hd hr) hP hc hs
/-- an array by its length and what each place holds -/
def own_Av (Z : State) (h : Heap) (a : Addr) (k : ClassId) (ty : FieldType) (n : Nat) (f : Nat → Value) : Prop := ∃ cl : Cell, Arr Z h a cl ty ∧ cl.cls = k ∧ cl.slots.size = n ∧ ∀ j, j < n → cl.slots[j]? = some (f j)
variable {a b : Addr} {k : ClassId} {ty : FieldType} {n i sl : Nat} {f : Nat → Value} {v w : Value} {ws : List Addr} {z j x : Int32} {rest : List Value}
theorem own_Av.lt (F : own_Av Z h a k ty n f) : a < h.size := by obtain ⟨cl, A, -⟩ := F; exact A.lt
theorem own_Av.ext (F : own_Av Z h a k ty n f) (E : Ext h h') : own_Av Z h' a k ty n f := by obtain ⟨cl, A, r⟩ := F; exact ⟨cl, A.ext E, r⟩
theorem own_Av.other (F : own_Av Z h b k ty n f) (W : Wr h h' a sl v) (q : b ≠ a) : own_Av Z h' b k ty n f := by obtain ⟨cl, A, r⟩ := F; exact ⟨cl, A.other W q, r⟩
theorem own_Av.keep (F : own_Av Z h a k ty n f) (K : Keep h h' ws) (q : a ∉ ws) : own_Av Z h' a k ty n f := by obtain ⟨cl, A, r⟩ := F; exact ⟨cl, ⟨K.2.1 a cl A.1 q, A.2⟩, r⟩
theorem own_Av.new (A : Arr Z h a (newA k ty z) ty) (hz : z.toNatClampNeg = n) : own_Av Z h a k ty n (fun _ => defaultValue ty) := ⟨_, A, rfl, (sz_new _ _ _).trans hz, fun q hq => by
  subst hz; simp [newA, hq]⟩
theorem own_Av.set (F : own_Av Z h a k ty n f) (W : Wr h h' a i v) (hi : i < n) : own_Av Z h' a k ty n (fun q => if q = i then v else f q) := by
  obtain ⟨cl, A, r1, r2, r3⟩ := F
  refine ⟨_, A.same W, r1, by rw [sz_set]; exact r2, fun q hq => ?_⟩
  by_cases u : q = i
  · subst u; simp [Cell.setSlot, r2, hi]
  · have := r3 q hq; simp only [Cell.setSlot, u, if_false]; rw [Array.getElem?_setIfInBounds_ne (Ne.symm u)]; exact this
theorem own_Av.to {f' : Nat → Value} (F : own_Av Z h a k ty n f) (q : ∀ j, j < n → f j = f' j) : own_Av Z h a k ty n f' := by
  obtain ⟨cl, A, r1, r2, r3⟩ := F; exact ⟨cl, A, r1, r2, fun j hj => by rw [← q j hj]; exact r3 j hj⟩
theorem own_idx (hj : j.toInt = i) : j.toNatClampNeg = i := by simp [Int32.toNatClampNeg, hj]
theorem own_inb {cl : Cell} (hj : j.toInt = i) (hs : cl.slots.size = n) (hi : i < n) : ¬ (j < 0 ∨ cl.slots.size ≤ j.toNatClampNeg) := by
  rw [own_idx hj, hs, Int32.lt_iff_toInt_lt, hj]; have : (0 : Int32).toInt = 0 := rfl; omega
theorem own_stC (X : Stand p l e R s m args below meth c T locs cells slots) (hx : p.tables.exec = Jvm.exec) (hZ : Z.Warmed39 s.vm) (eT : T.heap = h) (F : own_Av Z h a k .char n f) (hj : j.toInt = i) (hi : i < n) (hg : g.method = m) (hs : g.stack = .int x :: .int j :: .ref a :: rest) (hd : decode c.code g.pc = .ok (.castore, 1)) :
    ∃ T' h', Stand p l e R s m args below meth c T' (locs ++ [⟨a, i⟩]) cells slots ∧ T'.heap = h' ∧ Wr h h' a i (.int (nar .char x)) ∧ own_Av Z h' a k .char n (fun q => if q = i then .int (nar .char x) else f q) ∧ ∀ target, Steps p.tables e below (T'.setTop { g with pc := g.pc + 1, stack := rest }) target → Steps p.tables e below (T.setTop g) target := by
  obtain ⟨cl, A, r1, r2, r3⟩ := F
  obtain ⟨T', h', X', e', W, st⟩ := stC X hx hZ eT A (own_inb hj r2 hi) hg hs hd
  rw [own_idx hj] at X' W
  exact ⟨T', h', X', e', W, own_Av.set ⟨cl, A, r1, r2, r3⟩ W hi, st⟩
theorem own_stB (X : Stand p l e R s m args below meth c T locs cells slots) (hx : p.tables.exec = Jvm.exec) (hZ : Z.Warmed39 s.vm) (eT : T.heap = h) (F : own_Av Z h a k .byte n f) (hj : j.toInt = i) (hi : i < n) (hg : g.method = m) (hs : g.stack = .int x :: .int j :: .ref a :: rest) (hd : decode c.code g.pc = .ok (.bastore, 1)) :
    ∃ T' h', Stand p l e R s m args below meth c T' (locs ++ [⟨a, i⟩]) cells slots ∧ T'.heap = h' ∧ Wr h h' a i (.int (nar .byte x)) ∧ own_Av Z h' a k .byte n (fun q => if q = i then .int (nar .byte x) else f q) ∧ ∀ target, Steps p.tables e below (T'.setTop { g with pc := g.pc + 1, stack := rest }) target → Steps p.tables e below (T.setTop g) target := by
  obtain ⟨cl, A, r1, r2, r3⟩ := F
  obtain ⟨T', h', X', e', W, st⟩ := stB X hx hZ eT A (own_inb hj r2 hi) hg hs hd
  rw [own_idx hj] at X' W
  exact ⟨T', h', X', e', W, own_Av.set ⟨cl, A, r1, r2, r3⟩ W hi, st⟩
theorem own_stI (X : Stand p l e R s m args below meth c T locs cells slots) (hx : p.tables.exec = Jvm.exec) (hZ : Z.Warmed39 s.vm) (eT : T.heap = h) (F : own_Av Z h a k .int n f) (hj : j.toInt = i) (hi : i < n) (hg : g.method = m) (hs : g.stack = .int x :: .int j :: .ref a :: rest) (hd : decode c.code g.pc = .ok (.iastore, 1)) :
    ∃ T' h', Stand p l e R s m args below meth c T' (locs ++ [⟨a, i⟩]) cells slots ∧ T'.heap = h' ∧ Wr h h' a i (.int x) ∧ own_Av Z h' a k .int n (fun q => if q = i then .int x else f q) ∧ ∀ target, Steps p.tables e below (T'.setTop { g with pc := g.pc + 1, stack := rest }) target → Steps p.tables e below (T.setTop g) target := by
  obtain ⟨cl, A, r1, r2, r3⟩ := F
  obtain ⟨T', h', X', e', W, st⟩ := stI X hx hZ eT A (own_inb hj r2 hi) hg hs hd
  rw [own_idx hj] at X' W
  exact ⟨T', h', X', e', W, own_Av.set ⟨cl, A, r1, r2, r3⟩ W hi, st⟩
theorem own_stJ {y : Int64} (X : Stand p l e R s m args below meth c T locs cells slots) (hx : p.tables.exec = Jvm.exec) (hZ : Z.Warmed39 s.vm) (eT : T.heap = h) (F : own_Av Z h a k .long n f) (hj : j.toInt = i) (hi : i < n) (hg : g.method = m) (hs : g.stack = .long y :: .int j :: .ref a :: rest) (hd : decode c.code g.pc = .ok (.lastore, 1)) :
    ∃ T' h', Stand p l e R s m args below meth c T' (locs ++ [⟨a, i⟩]) cells slots ∧ T'.heap = h' ∧ Wr h h' a i (.long y) ∧ own_Av Z h' a k .long n (fun q => if q = i then .long y else f q) ∧ ∀ target, Steps p.tables e below (T'.setTop { g with pc := g.pc + 1, stack := rest }) target → Steps p.tables e below (T.setTop g) target := by
  obtain ⟨cl, A, r1, r2, r3⟩ := F
  obtain ⟨T', h', X', e', W, st⟩ := stJ X hx hZ eT A (own_inb hj r2 hi) hg hs hd
  rw [own_idx hj] at X' W
  exact ⟨T', h', X', e', W, own_Av.set ⟨cl, A, r1, r2, r3⟩ W hi, st⟩
theorem own_stR {C : String} (X : Stand p l e R s m args below meth c T locs cells slots) (hx : p.tables.exec = Jvm.exec) (hZ : Z.Warmed39 s.vm) (eT : T.heap = h) (F : own_Av Z h a k (.object C) n f) (O : Ovr Z k C) (I : v = .null ∨ ∃ y, v = .ref y ∧ Ins Z h y C true) (hj : j.toInt = i) (hi : i < n) (hg : g.method = m) (hs : g.stack = v :: .int j :: .ref a :: rest) (hd : decode c.code g.pc = .ok (.aastore, 1)) :
    ∃ T' h', Stand p l e R s m args below meth c T' (locs ++ [⟨a, i⟩]) cells slots ∧ T'.heap = h' ∧ Wr h h' a i v ∧ own_Av Z h' a k (.object C) n (fun q => if q = i then v else f q) ∧ ∀ target, Steps p.tables e below (T'.setTop { g with pc := g.pc + 1, stack := rest }) target → Steps p.tables e below (T.setTop g) target := by
  obtain ⟨cl, A, r1, r2, r3⟩ := F
  have St : Sto Z h a v := by
    rcases I with rfl | ⟨y, rfl, I⟩
    · exact Or.inl rfl
    · exact Sto.ofV A r1 O I
  obtain ⟨T', h', X', e', W, st⟩ := stR X hx hZ eT A (own_inb hj r2 hi) rfl St hg hs hd
  rw [own_idx hj] at X' W
  exact ⟨T', h', X', e', W, own_Av.set ⟨cl, A, r1, r2, r3⟩ W hi, st⟩
theorem own_stS (X : Stand p l e R s m args below meth c T locs cells slots) (hx : p.tables.exec = Jvm.exec) (hZ : Z.Warmed39 s.vm) (eT : T.heap = h) (F : own_Av Z h a k ty n f) (hty : ty.isReference = true) (So : ∀ cl : Cell, Arr Z h a cl ty → cl.cls = k → Sto Z h a v) (hj : j.toInt = i) (hi : i < n) (hg : g.method = m) (hs : g.stack = v :: .int j :: .ref a :: rest) (hd : decode c.code g.pc = .ok (.aastore, 1)) :
    ∃ T' h', Stand p l e R s m args below meth c T' (locs ++ [⟨a, i⟩]) cells slots ∧ T'.heap = h' ∧ Wr h h' a i v ∧ own_Av Z h' a k ty n (fun q => if q = i then v else f q) ∧ ∀ target, Steps p.tables e below (T'.setTop { g with pc := g.pc + 1, stack := rest }) target → Steps p.tables e below (T.setTop g) target := by
  obtain ⟨cl, A, r1, r2, r3⟩ := F
  obtain ⟨T', h', X', e', W, st⟩ := stR X hx hZ eT A (own_inb hj r2 hi) hty (So cl A r1) hg hs hd
  rw [own_idx hj] at X' W
  exact ⟨T', h', X', e', W, own_Av.set ⟨cl, A, r1, r2, r3⟩ W hi, st⟩
theorem own_ldC (X : Stand p l e R s m args below meth c T locs cells slots) (hx : p.tables.exec = Jvm.exec) (hZ : Z.Warmed39 s.vm) (eT : T.heap = h) (F : own_Av Z h a k .char n f) (hj : j.toInt = i) (hi : i < n) (hv : f i = v) (hg : g.method = m) (hs : g.stack = .int j :: .ref a :: rest) (hd : decode c.code g.pc = .ok (.caload, 1)) (target : State)
    (hr : Steps p.tables e below (T.setTop { g with pc := g.pc + 1, stack := v :: rest }) target) : Steps p.tables e below (T.setTop g) target := by
  obtain ⟨cl, A, r1, r2, r3⟩ := F
  exact X.caload hx (by rw [eT]; exact A.1) (State.isArrayOf_alike hZ.alike A.2.1) A.2.2 (own_inb hj r2 hi) (by rw [own_idx hj, r3 i hi, hv]) hg hs hd target hr
theorem own_ldB (X : Stand p l e R s m args below meth c T locs cells slots) (hx : p.tables.exec = Jvm.exec) (hZ : Z.Warmed39 s.vm) (eT : T.heap = h) (F : own_Av Z h a k .byte n f) (hj : j.toInt = i) (hi : i < n) (hv : f i = v) (hg : g.method = m) (hs : g.stack = .int j :: .ref a :: rest) (hd : decode c.code g.pc = .ok (.baload, 1)) (target : State)
    (hr : Steps p.tables e below (T.setTop { g with pc := g.pc + 1, stack := v :: rest }) target) : Steps p.tables e below (T.setTop g) target := by
  obtain ⟨cl, A, r1, r2, r3⟩ := F
  exact X.baloadBytes hx (by rw [eT]; exact A.1) (State.isArrayOf_alike hZ.alike A.2.1) A.2.2 (own_inb hj r2 hi) (by rw [own_idx hj, r3 i hi, hv]) hg hs hd target hr
theorem own_ldI (X : Stand p l e R s m args below meth c T locs cells slots) (hx : p.tables.exec = Jvm.exec) (hZ : Z.Warmed39 s.vm) (eT : T.heap = h) (F : own_Av Z h a k .int n f) (hj : j.toInt = i) (hi : i < n) (hv : f i = v) (hg : g.method = m) (hs : g.stack = .int j :: .ref a :: rest) (hd : decode c.code g.pc = .ok (.iaload, 1)) (target : State)
    (hr : Steps p.tables e below (T.setTop { g with pc := g.pc + 1, stack := v :: rest }) target) : Steps p.tables e below (T.setTop g) target := by
  obtain ⟨cl, A, r1, r2, r3⟩ := F
  exact X.iaload hx (by rw [eT]; exact A.1) (State.isArrayOf_alike hZ.alike A.2.1) A.2.2 (own_inb hj r2 hi) (by rw [own_idx hj, r3 i hi, hv]) hg hs hd target hr
theorem own_ldR (X : Stand p l e R s m args below meth c T locs cells slots) (hx : p.tables.exec = Jvm.exec) (hZ : Z.Warmed39 s.vm) (eT : T.heap = h) (F : own_Av Z h a k ty n f) (hty : ty.isReference = true) (hj : j.toInt = i) (hi : i < n) (hv : f i = v) (hg : g.method = m) (hs : g.stack = .int j :: .ref a :: rest) (hd : decode c.code g.pc = .ok (.aaload, 1)) (target : State)
    (hr : Steps p.tables e below (T.setTop { g with pc := g.pc + 1, stack := v :: rest }) target) : Steps p.tables e below (T.setTop g) target := by
  obtain ⟨cl, A, r1, r2, r3⟩ := F
  exact X.aaload hx (by rw [eT]; exact A.1) (State.isArrayOf_alike hZ.alike A.2.1) hty A.2.2 (own_inb hj r2 hi) (by rw [own_idx hj, r3 i hi, hv]) hg hs hd target hr
theorem own_len (X : Stand p l e R s m args below meth c T locs cells slots) (hx : p.tables.exec = Jvm.exec) (hZ : Z.Warmed39 s.vm) (eT : T.heap = h) (F : own_Av Z h a k ty n f) (hz : n.toInt32 = z) (hg : g.method = m) (hs : g.stack = .ref a :: rest) (hd : decode c.code g.pc = .ok (.arraylength, 1)) (target : State)
    (hr : Steps p.tables e below (T.setTop { g with pc := g.pc + 1, stack := .int z :: rest }) target) : Steps p.tables e below (T.setTop g) target := by
  obtain ⟨cl, A, r1, r2, r3⟩ := F
  exact X.arraylength hx (by rw [eT]; exact A.1) (State.isArrayOf_alike hZ.alike A.2.1) hg hs hd target (by rw [r2, hz]; exact hr)
theorem own_ne (q : a < h.size) (r : b = h.size) : a ≠ b := Nat.ne_of_lt (Nat.lt_of_lt_of_le q (Nat.le_of_eq r.symm))
theorem own_ne2 (q : a < h.size) (r : h.size ≤ b) : a ≠ b := Nat.ne_of_lt (Nat.lt_of_lt_of_le q r)
theorem own_ge {n0 : Nat} (q : n0 ≤ h.size) (r : b = h.size) : n0 ≤ b := Nat.le_trans q (Nat.le_of_eq r.symm)
theorem own_store1 {L : Array Slot} {o : Slot} (hv : v.isRef = true) (hold : L[i]? = some o) (ho : o = .unset ∨ ∃ w, o = .val w ∧ w.category = 1) : storeLocals L i v = some (L.setIfInBounds i (.val v)) := XS.store1 hold ho (Jvm.Free.XT.cat1 hv)
theorem own_nref (ht : ty.isReference = true) (hv : v.isRef = true) : narrow ty v = v := by cases ty <;> cases v <;> first | rfl | (simp [Value.isRef] at hv; done) | (simp [FieldType.isReference] at ht; done)
theorem own_fref (ht : ty.isReference = true) (hv : v.isRef = true) : fits ty v = true := by cases ty <;> cases v <;> first | rfl | (simp [Value.isRef] at hv; done) | (simp [FieldType.isReference] at ht; done)
theorem own_fldI {t : Term} {C nm d : String} (ev : t.eval args s none [] s = some (.ref a)) (hq : (Cond.eq (Term.field t C nm d) (Term.int z)).value args s none s [] = some true) : Fld s s.heap a C nm d (.int z) := by
  obtain ⟨x, y, hx, hy, -, -⟩ := cmp_v (Or.inl hq)
  obtain rfl : y = .int z := (Option.some.inj hy).symm
  have : x = .int z := by simp only [Cond.value, hx, hy] at hq; cases x <;> simp at hq ⊢; exact hq
  rw [fld_at ev] at hx
  exact Fld.start (this ▸ hx)
theorem own_fldJ {t : Term} {C nm d : String} {z : Int64} (ev : t.eval args s none [] s = some (.ref a)) (hq : (Cond.eq (Term.field t C nm d) (Term.long z)).value args s none s [] = some true) : Fld s s.heap a C nm d (.long z) := by
  obtain ⟨x, y, hx, hy, -, -⟩ := cmp_v (Or.inl hq)
  obtain rfl : y = .long z := (Option.some.inj hy).symm
  have : x = .long z := by simp only [Cond.value, hx, hy] at hq; cases x <;> simp at hq ⊢; exact hq
  rw [fld_at ev] at hx
  exact Fld.start (this ▸ hx)
theorem own_fldN {t : Term} {C nm d : String} (ev : t.eval args s none [] s = some (.ref a)) (hq : (Cond.eq (Term.field t C nm d) Term.null).value args s none s [] = some true) : Fld s s.heap a C nm d .null := by
  have hx := null_v hq
  rw [fld_at ev] at hx
  exact Fld.start hx
theorem own_selP {y : MethodName} {nn : Nat} {a0 : Array Value} (hZ : Z.Warmed39 s.vm) (wi : (Cond.instantiable y.cls nn).before a0 Z = true) (wp : (Cond.privateMethod y).before a0 Z = true) (wm : (Cond.instanceMethod y).before a0 Z = true) (hy : y.cls ≠ "java/lang/invoke/MethodHandle" ∧ y.cls ≠ "java/lang/invoke/VarHandle") : (Cond.selects y.cls y y).before args s = true := by
  obtain ⟨c', k', h1, h2, -, h4, -⟩ := Cond.instantiable_spec (mv (args := args) hZ wi : (Cond.instantiable y.cls nn).before args s = true)
  exact selects_self_of_private h1 h2 (by simp at h4; exact h4.1) (Cond.privateMethod_at (mvP hZ wp (args := args))) (mv hZ wm) hy
theorem own_insK {C : String} (I : Ins Z h a C true) (K : Keep h h' ws) : Ins Z h' a C true := by
  obtain ⟨cell, cT, h1, h2, h3⟩ := I
  obtain ⟨c', q, r1, r2, r3⟩ := K.2.2 a cell h1
  exact ⟨c', cT, q, h2, by rw [r1, r2]; exact h3⟩
theorem own_len0 {cl : Cell} {t : Term} (A : Arr s s.heap a cl ty) (ev : t.eval args s none [] s = some (.ref a)) (hq : (Cond.eq (Term.length t) (Term.int 0)).value args s none s [] = some true) : own_Av s s.heap a cl.cls ty 0 (fun _ => .null) := by
  obtain ⟨x, y, hx, hy, -, -⟩ := cmp_v (Or.inl hq)
  obtain rfl : y = .int 0 := (Option.some.inj hy).symm
  have : x = .int 0 := by simp only [Cond.value, hx, hy] at hq; cases x <;> simp at hq ⊢; exact hq
  subst this
  refine ⟨cl, A, rfl, ?_, fun j hj => absurd hj (Nat.not_lt_zero _)⟩
  have ha := Arr.fin (Vm.Alike.refl _) A
  simp only [Term.eval, ev, Option.bind_some, ha, Option.bind_eq_bind] at hx
  split at hx
  · rename_i hl
    have e := Value.int.inj (Option.some.inj hx)
    have e2 : (cl.slots.size.toInt32).toInt = 0 := by rw [e]; rfl
    rw [len_toInt hl] at e2; omega
  · cases hx
theorem own_fitC {q : Int32} (h1 : ¬ q < 0) (h2 : ¬ (255 : Int32) < q) : fits .char (.int q) = true := by
  have e0 : (0 : Int32).toInt = 0 := rfl
  have e1 : (255 : Int32).toInt = 255 := rfl
  have e2 : (65535 : Int32).toInt = 65535 := rfl
  rw [Int32.lt_iff_toInt_lt] at h1 h2
  simp only [fits, Bool.and_eq_true, decide_eq_true_eq, Int32.le_iff_toInt_le]; omega
theorem own_Av.arv {cs : List Int32} (F : own_Av Z h a k .char n f) (hz : z.toNatClampNeg = n) (hz0 : ¬ z < 0) (hl : cs.length = n) (hf : ∀ i, i < n → f i = .int (cs.getD i 0)) (hp : ∀ q ∈ cs, ¬ q < 0 ∧ ¬ (255 : Int32) < q) : Arv Z h a k .char z (cs.map Value.int) (.int 0) := by
  obtain ⟨cl, A, r1, r2, r3⟩ := F
  have e : ∀ i, (cs.map Value.int).getD i (.int 0) = .int (cs.getD i 0) := fun i => by
    simp only [List.getD_eq_getElem?_getD, List.getElem?_map]; cases cs[i]? <;> rfl
  refine ⟨cl, A, r1, by rw [r2, hz], hz0, fun i hi => by rw [e, ← hf i (r2 ▸ hi)]; exact r3 i (r2 ▸ hi), fun i hi => ?_⟩
  rw [e]
  have hi' : i < cs.length := by rw [hl, ← r2]; exact hi
  have q := hp (cs[i]) (List.getElem_mem hi')
  rw [List.getD_eq_getElem?_getD, List.getElem?_eq_getElem hi']
  exact own_fitC q.1 q.2
end Own
theorem own_lt0 {x : Int32} (q : 0 ≤ x.toInt) : ¬ x < 0 := by rw [Int32.lt_iff_toInt_lt]; have : (0 : Int32).toInt = 0 := rfl; omega
theorem own_narb (x : Int32) : nar .byte x.toInt8.toInt32 = x.toInt8.toInt32 := by simp [nar]
theorem own_narc (x : Int32) : nar .char x.toUInt32.toUInt16.toUInt32.toInt32 = x.toUInt32.toUInt16.toUInt32.toInt32 := by simp only [nar, UInt32.toUInt32_toInt32, UInt16.toUInt16_toUInt32]
theorem own_modg {q y : Int32} (hq : 0 ≤ q.toInt) (hy : 0 < y.toInt) : 0 ≤ (q % y).toInt ∧ (q % y).toInt < y.toInt := by
  have h2 := (c_iremV q y).1 hq hy
  exact ⟨h2.1, h2.2.1⟩
theorem own_modm (q y : Int32) (hy : 0 < y.toInt) : 0 ≤ ((q &&& (2147483647 : Int32)) % y).toInt ∧ ((q &&& (2147483647 : Int32)) % y).toInt < y.toInt := own_modg (c_and q (2147483647 : Int32) (by decide)).1 hy
theorem own_ix {ev pc pr : Int32} (h1 : 0 ≤ ev.toInt ∧ ev.toInt ≤ 15) (h2 : 1 ≤ pc.toInt ∧ pc.toInt ≤ 4) (h3 : 0 ≤ pr.toInt ∧ pr.toInt < pc.toInt) : ∃ i : Nat, (i : Int) = ev.toInt * pc.toInt + pr.toInt ∧ ((ev * pc) + pr).toInt = i ∧ (i : Int) < 16 * pc.toInt := by
  have hb : 0 ≤ ev.toInt * pc.toInt ∧ ev.toInt * pc.toInt ≤ 60 ∧ ev.toInt * pc.toInt + pr.toInt < 16 * pc.toInt := by
    rcases (by omega : pc.toInt = 1 ∨ pc.toInt = 2 ∨ pc.toInt = 3 ∨ pc.toInt = 4) with q | q | q | q <;> rw [q] at h3 ⊢ <;> omega
  have hm : (ev * pc).toInt = ev.toInt * pc.toInt := Jvm.Free.XT.mul32 ⟨by omega, by omega⟩
  have ha : ((ev * pc) + pr).toInt = (ev * pc).toInt + pr.toInt := Jvm.Free.XT.add32 ⟨by omega, by omega⟩
  exact ⟨(ev.toInt * pc.toInt + pr.toInt).toNat, by omega, by omega, by omega⟩
theorem own_inj {e1 e2 pc r1 r2 : Int32} {i j : Nat} (h2 : 1 ≤ pc.toInt ∧ pc.toInt ≤ 4) (h3 : 0 ≤ r1.toInt ∧ r1.toInt < pc.toInt) (h4 : 0 ≤ r2.toInt ∧ r2.toInt < pc.toInt) (hi : (i : Int) = e1.toInt * pc.toInt + r1.toInt) (hj : (j : Int) = e2.toInt * pc.toInt + r2.toInt) : i = j ↔ (e1 = e2 ∧ r1 = r2) := by
  rw [← Int32.toInt_inj, ← Int32.toInt_inj]
  rcases (by omega : pc.toInt = 1 ∨ pc.toInt = 2 ∨ pc.toInt = 3 ∨ pc.toInt = 4) with q | q | q | q <;> rw [q] at h3 h4 hi hj <;> omega
theorem own_char (x : Int32) : ¬ (x &&& (255 : Int32)).toUInt32.toUInt16.toUInt32.toInt32 < 0 ∧ ¬ (255 : Int32) < (x &&& (255 : Int32)).toUInt32.toUInt16.toUInt32.toInt32 := by
  rw [i2c_mask, Int32.lt_iff_toInt_lt, Int32.lt_iff_toInt_lt]; have := c_and x (255 : Int32) (by decide); have : (255 : Int32).toInt = 255 := rfl; have : (0 : Int32).toInt = 0 := rfl; omega
theorem own_masks (x : Int32) : (0 ≤ (x &&& (1 : Int32)).toInt ∧ (x &&& (1 : Int32)).toInt ≤ 15) ∧ (0 ≤ (x &&& (3 : Int32)).toInt ∧ (x &&& (3 : Int32)).toInt ≤ 3) := ⟨by have := c_and x (1 : Int32) (by decide); have : (1 : Int32).toInt = 1 := rfl; omega, c_and x (3 : Int32) (by decide)⟩
theorem own_ush (x y : Int32) (hy : 0 < y.toInt) : 0 ≤ (((x.toUInt32 >>> ((1 : Int32) &&& 31).toUInt32).toInt32) % y).toInt ∧ (((x.toUInt32 >>> ((1 : Int32) &&& 31).toUInt32).toInt32) % y).toInt < y.toInt := by
  have h := c_iushr x (1 : Int32) 1 (by decide) (by decide)
  exact own_modg (by rw [h]; omega) hy
theorem own_hp2 (x y : Int32) : ∀ q ∈ ([(x &&& (255 : Int32)).toUInt32.toUInt16.toUInt32.toInt32, (y &&& (255 : Int32)).toUInt32.toUInt16.toUInt32.toInt32] : List Int32), ¬ q < 0 ∧ ¬ (255 : Int32) < q := by
  intro q hq; simp only [List.mem_cons, List.not_mem_nil, or_false] at hq; rcases hq with rfl | rfl <;> exact own_char _
theorem d7_0 : decode prog_22_method_1_code 0 = .ok (.aload_n 0, 1) := by decide +kernel
theorem d7_1 : decode prog_22_method_1_code 1 = .ok (.invokespecial 1, 3) := by decide +kernel
theorem d7_4 : decode prog_22_method_1_code 4 = .ok (.aload_n 0, 1) := by decide +kernel
theorem d7_5 : decode prog_22_method_1_code 5 = .ok (.iconst 0, 1) := by decide +kernel
theorem d7_6 : decode prog_22_method_1_code 6 = .ok (.newarray .byte, 2) := by decide +kernel
theorem d7_8 : decode prog_22_method_1_code 8 = .ok (.putfield 7, 3) := by decide +kernel
theorem d7_11 : decode prog_22_method_1_code 11 = .ok (.aload_n 0, 1) := by decide +kernel
theorem d7_12 : decode prog_22_method_1_code 12 = .ok (.bipush 16, 2) := by decide +kernel
theorem d7_14 : decode prog_22_method_1_code 14 = .ok (.newarray .long, 2) := by decide +kernel
theorem d7_16 : decode prog_22_method_1_code 16 = .ok (.putfield 13, 3) := by decide +kernel
theorem d7_19 : decode prog_22_method_1_code 19 = .ok (.aload_n 0, 1) := by decide +kernel
theorem d7_20 : decode prog_22_method_1_code 20 = .ok (.bipush 16, 2) := by decide +kernel
theorem d7_22 : decode prog_22_method_1_code 22 = .ok (.newarray .int, 2) := by decide +kernel
theorem d7_24 : decode prog_22_method_1_code 24 = .ok (.putfield 17, 3) := by decide +kernel
theorem d7_27 : decode prog_22_method_1_code 27 = .ok (.aload_n 0, 1) := by decide +kernel
theorem d7_28 : decode prog_22_method_1_code 28 = .ok (.iload_n 1, 1) := by decide +kernel
theorem d7_29 : decode prog_22_method_1_code 29 = .ok (.putfield 21, 3) := by decide +kernel
theorem d7_32 : decode prog_22_method_1_code 32 = .ok (.aload_n 0, 1) := by decide +kernel
theorem d7_33 : decode prog_22_method_1_code 33 = .ok (.aload_n 0, 1) := by decide +kernel
theorem d7_34 : decode prog_22_method_1_code 34 = .ok (.getfield 13, 3) := by decide +kernel
theorem d7_37 : decode prog_22_method_1_code 37 = .ok (.arraylength, 1) := by decide +kernel
theorem d7_38 : decode prog_22_method_1_code 38 = .ok (.iload_n 1, 1) := by decide +kernel
theorem d7_39 : decode prog_22_method_1_code 39 = .ok (.imul, 1) := by decide +kernel
theorem d7_40 : decode prog_22_method_1_code 40 = .ok (.anewarray 25, 3) := by decide +kernel
theorem d7_43 : decode prog_22_method_1_code 43 = .ok (.putfield 27, 3) := by decide +kernel
theorem d7_46 : decode prog_22_method_1_code 46 = .ok (.return_, 1) := by decide +kernel
theorem own_pn0 : plainName "com/example/funnelwright/funnelwright/UserEvents" = true := by first | (simp [plainName, overriddenIn]; done) | decide +kernel
def own_ini_Q (Z : State) (a : Addr) (pc : Int32) (N : Nat) (h0 : Heap) (n0 : Nat) (v : Option Value) (h : Heap) (L : List Loc) : Prop := v = none ∧ Fr n0 L ∧ Keep h0 h [a] ∧ ∃ tt kt tk kk t k, Fld Z h a "com/example/funnelwright/funnelwright/UserEvents" "times" "[J" (.ref tt) ∧ Fld Z h a "com/example/funnelwright/funnelwright/UserEvents" "kinds" "[I" (.ref tk) ∧ Fld Z h a "com/example/funnelwright/funnelwright/UserEvents" "propertyCount" "I" (.int pc) ∧ Fld Z h a "com/example/funnelwright/funnelwright/UserEvents" "properties" "[Ljava/lang/String;" (.ref t) ∧ Fld Z h a "com/example/funnelwright/funnelwright/UserEvents" "size" "I" (.int (0 : Int32)) ∧ (∃ bi, Fld Z h a "com/example/funnelwright/funnelwright/UserEvents" "id" "[B" (.ref bi)) ∧ own_Av Z h tt kt .long 16 (fun _ => .long 0) ∧ own_Av Z h tk kk .int 16 (fun _ => .int 0) ∧ own_Av Z h t k (.object "java/lang/String") N (fun _ => .null) ∧ Ovr Z k "java/lang/String" ∧ h0.size ≤ tt ∧ h0.size ≤ tk ∧ h0.size ≤ t ∧ tt ≠ tk ∧ tt ≠ t ∧ tk ≠ t
set_option maxRecDepth 65536 in
set_option maxHeartbeats 40000000 in
theorem own_ini (l : Launch) (Z : State) (a0 : Array Value) (hw : ∀ d ∈ tables_1, d.before a0 Z = true) (ws : List Jvm.Cond) (a : Addr) (pc : Int32) (N : Nat) (h0 : Heap) (n0 : Nat) (Z0 : n0 ≤ h0.size) (F_id : Fld Z h0 a "com/example/funnelwright/funnelwright/UserEvents" "id" "[B" .null) (F_times : Fld Z h0 a "com/example/funnelwright/funnelwright/UserEvents" "times" "[J" .null) (F_kinds : Fld Z h0 a "com/example/funnelwright/funnelwright/UserEvents" "kinds" "[I" .null) (F_propertyCount : Fld Z h0 a "com/example/funnelwright/funnelwright/UserEvents" "propertyCount" "I" (.int (0 : Int32))) (F_properties : Fld Z h0 a "com/example/funnelwright/funnelwright/UserEvents" "properties" "[Ljava/lang/String;" .null) (F_size : Fld Z h0 a "com/example/funnelwright/funnelwright/UserEvents" "size" "I" (.int (0 : Int32))) (Ea : Exa Z h0 a "com/example/funnelwright/funnelwright/UserEvents") (ga : n0 ≤ a) (hN : ((16 : Int32) * pc).toInt = N) (hN64 : N ≤ 64) :
    MetFree l (⟨"com/example/funnelwright/funnelwright/UserEvents", "<init>", "(I)V"⟩ : MethodName) (head1 (Jvm.Cond.code (⟨"com/example/funnelwright/funnelwright/UserEvents", "<init>", "(I)V"⟩ : MethodName) prog_22_method_1_code 2 none :: ws) ({ frames := 1, cells := 4, slots := 96, locals := 12 } : Room)) (fun aa U0 => aa = #[(.ref a), (.int pc)] ∧ Z.Warmed39 U0.vm ∧ U0.heap = h0) (fun _ _ _ _ _ => True) (fun _ U0 o0 U1 => ∃ v0 L0, o0 = .returned v0 ∧ own_ini_Q Z a pc N h0 n0 v0 U1.heap L0 ∧ FrameEnd U0 o0 U1 L0 ({ frames := 1, cells := 4, slots := 96, locals := 12 } : Room).cells ({ frames := 1, cells := 4, slots := 96, locals := 12 } : Room).slots) := by
  refine MetFree.of_bodySF (plainFor_of_name own_pn0) hisR ?_
  intro p e s m args below meth c s₁ Bd hml0 hP hK
  obtain ⟨rfl, hZ, hh⟩ := hP
  have hx := Bd.exec
  have hby := Bd.bytes
  have hml : c.maxLocals = 2 := hml0
  have hown : s.vm.findClass "com/example/funnelwright/funnelwright/UserEvents" = some m.cls := findClass_of_methodNamed Bd.named
  have hnm := (name_of_methodNamed Bd.named Bd.method).1
  have X0 : Stand p l e ({ frames := 1, cells := 4, slots := 96, locals := 12 } : Room) s m #[(.ref a), (.int pc)] below meth c s₁ [] 0 0 := Stand.of_body Bd
  have e0 : s₁.heap = h0 := by rw [← hh, Bd.state]; rfl
  have N0 := Fr.nil n0
  show own_Go p e below s (own_ini_Q Z a pc N h0 n0) 4 96 s₁ (entryFrame m #[(.ref a), (.int pc)] 2)
  rw [show entryFrame m #[(.ref a), (.int pc)] 2 = mkF m 0 #[.val (.ref a), .val (.int pc)] [] from by first | (simp [entryFrame, mkF, argsToLocals, Value.category]; done) | rfl]
  have Kp := Keep.refl h0 [a]
  refine own_st (T' := s₁) (g' := (mkF m 1 #[.val (.ref a), .val (.int pc)] [(.ref a)])) (fun _ k => XS.aloadN X0.here hx rfl (hb hby d7_0) rfl rfl k) ?_
  obtain ⟨T1, X1, e1, st1⟩ := initO X0 hx hZ hown (hw _ (List.mem_of_getElem? (i := 36) rfl)) (hw _ (List.mem_of_getElem? (i := 12) rfl)) (hw _ (List.mem_of_getElem? (i := 13) rfl)) e0 (g := (mkF m 1 #[.val (.ref a), .val (.int pc)] [(.ref a)])) rfl (by rw [hml]; rfl) rfl (hb hby d7_1) (by decide) (W := 0) (by show 2 * 0 + _ ≤ _; exact Nat.le_of_eq rfl) (by decide)
  refine own_st (T' := T1) (g' := (mkF m 4 #[.val (.ref a), .val (.int pc)] [])) st1 ?_
  refine own_st (T' := T1) (g' := (mkF m 5 #[.val (.ref a), .val (.int pc)] [(.ref a)])) (fun _ k => XS.aloadN X1.here hx rfl (hb hby d7_4) rfl rfl k) ?_
  refine own_st (T' := T1) (g' := (mkF m 6 #[.val (.ref a), .val (.int pc)] [(.int (0 : Int32)), (.ref a)])) (fun _ k => XS.iconst X1.here hx rfl (hb hby d7_5) k) ?_
  obtain ⟨T2, h2, k2, X2, e2, E2, A2, st2⟩ := newP X1 hx hZ (hw _ (List.mem_of_getElem? (i := 19) rfl)) e1 (g := (mkF m 6 #[.val (.ref a), .val (.int pc)] [(.int (0 : Int32)), (.ref a)])) rfl (hb hby d7_6) rfl (by decide) (cap := 0) (by decide) (by decide) (by decide) (by decide)
  obtain ⟨bi, gbi⟩ : ∃ z, z = h0.size := ⟨_, rfl⟩
  rw [← gbi] at A2 st2
  have ne_a_bi : a ≠ bi := own_ne F_id.lt gbi
  have ge_bi : n0 ≤ bi := own_ge Z0 gbi
  have sz_bi : h0.size ≤ bi := own_ge Kp.1 gbi
  have F_id := F_id.ext E2
  have F_times := F_times.ext E2
  have F_kinds := F_kinds.ext E2
  have F_propertyCount := F_propertyCount.ext E2
  have F_properties := F_properties.ext E2
  have F_size := F_size.ext E2
  have Ea := Ea.ext E2
  have Z0' := Nat.le_trans Z0 E2.1
  have Kp := Kp.ext E2
  have V_bi := own_Av.new (n := 0) A2 rfl
  refine own_st (T' := T2) (g' := (mkF m 8 #[.val (.ref a), .val (.int pc)] [(.ref bi), (.ref a)])) st2 ?_
  obtain ⟨T3, h3, X3, e3, W3, st3⟩ := putF X2 hx hZ hown (host := "") (Or.inl (hw _ (List.mem_of_getElem? (i := 37) rfl))) Via.refl e2 F_id Ea (Or.inl (hw _ (List.mem_of_getElem? (i := 38) rfl))) (hw _ (List.mem_of_getElem? (i := 31) rfl)) (ty := (.array .byte)) (by decide) rfl rfl (g := (mkF m 8 #[.val (.ref a), .val (.int pc)] [(.ref bi), (.ref a)])) rfl rfl (hb hby d7_8)
  have F_times := F_times.other W3 (Or.inr (slot_ne (Or.inl (hw _ (List.mem_of_getElem? (i := 41) rfl))) (Or.inl (hw _ (List.mem_of_getElem? (i := 38) rfl))) (by decide) (t := (.array .long)) (t' := (.array .byte)) (by decide) (by decide)))
  have F_kinds := F_kinds.other W3 (Or.inr (slot_ne (Or.inl (hw _ (List.mem_of_getElem? (i := 44) rfl))) (Or.inl (hw _ (List.mem_of_getElem? (i := 38) rfl))) (by decide) (t := (.array .int)) (t' := (.array .byte)) (by decide) (by decide)))
  have F_propertyCount := F_propertyCount.other W3 (Or.inr (slot_ne (Or.inr (hw _ (List.mem_of_getElem? (i := 46) rfl))) (Or.inl (hw _ (List.mem_of_getElem? (i := 38) rfl))) (by decide) (t := .int) (t' := (.array .byte)) (by decide) (by decide)))
  have F_properties := F_properties.other W3 (Or.inr (slot_ne (Or.inl (hw _ (List.mem_of_getElem? (i := 50) rfl))) (Or.inl (hw _ (List.mem_of_getElem? (i := 38) rfl))) (by decide) (t := (.array (.object "java/lang/String"))) (t' := (.array .byte)) (by decide) (by decide)))
  have F_size := F_size.other W3 (Or.inr (slot_ne (Or.inl (hw _ (List.mem_of_getElem? (i := 57) rfl))) (Or.inl (hw _ (List.mem_of_getElem? (i := 38) rfl))) (by decide) (t := .int) (t' := (.array .byte)) (by decide) (by decide)))
  have Ea := Ea.wr W3
  have V_bi := V_bi.other W3 (Ne.symm ne_a_bi)
  have Z0'' := Nat.le_trans Z0' (Keep.of_wr W3).1
  have Kp := Kp.wr W3 (Or.inl (List.mem_of_getElem? (i := 0) rfl))
  have N0' := Fr.snoc X3 N0 ga
  have F_id := F_id.same W3
  refine own_st (T' := T3) (g' := (mkF m 11 #[.val (.ref a), .val (.int pc)] [])) st3 ?_
  refine own_st (T' := T3) (g' := (mkF m 12 #[.val (.ref a), .val (.int pc)] [(.ref a)])) (fun _ k => XS.aloadN X3.here hx rfl (hb hby d7_11) rfl rfl k) ?_
  refine own_st (T' := T3) (g' := (mkF m 14 #[.val (.ref a), .val (.int pc)] [(.int (16 : Int32)), (.ref a)])) (fun _ k => XS.bipush X3.here hx rfl (hb hby d7_12) k) ?_
  obtain ⟨T4, h4, k4, X4, e4, E4, A4, st4⟩ := newP X3 hx hZ (hw _ (List.mem_of_getElem? (i := 39) rfl)) e3 (g := (mkF m 14 #[.val (.ref a), .val (.int pc)] [(.int (16 : Int32)), (.ref a)])) rfl (hb hby d7_14) rfl (by decide) (cap := 16) (by decide) (by decide) (by decide) (by decide)
  obtain ⟨tt, gtt⟩ : ∃ z, z = h3.size := ⟨_, rfl⟩
  rw [← gtt] at A4 st4
  have ne_a_tt : a ≠ tt := own_ne F_id.lt gtt
  have ne_bi_tt : bi ≠ tt := own_ne V_bi.lt gtt
  have ge_tt : n0 ≤ tt := own_ge Z0'' gtt
  have sz_tt : h0.size ≤ tt := own_ge Kp.1 gtt
  have F_id := F_id.ext E4
  have F_times := F_times.ext E4
  have F_kinds := F_kinds.ext E4
  have F_propertyCount := F_propertyCount.ext E4
  have F_properties := F_properties.ext E4
  have F_size := F_size.ext E4
  have Ea := Ea.ext E4
  have V_bi := V_bi.ext E4
  have Z0''' := Nat.le_trans Z0'' E4.1
  have Kp := Kp.ext E4
  have V_tt := own_Av.new (n := 16) A4 rfl
  refine own_st (T' := T4) (g' := (mkF m 16 #[.val (.ref a), .val (.int pc)] [(.ref tt), (.ref a)])) st4 ?_
  obtain ⟨T5, h5, X5, e5, W5, st5⟩ := putF X4 hx hZ hown (host := "") (Or.inl (hw _ (List.mem_of_getElem? (i := 40) rfl))) Via.refl e4 F_times Ea (Or.inl (hw _ (List.mem_of_getElem? (i := 41) rfl))) (hw _ (List.mem_of_getElem? (i := 31) rfl)) (ty := (.array .long)) (by decide) rfl rfl (g := (mkF m 16 #[.val (.ref a), .val (.int pc)] [(.ref tt), (.ref a)])) rfl rfl (hb hby d7_16)
  have F_id := F_id.other W5 (Or.inr (slot_ne (Or.inl (hw _ (List.mem_of_getElem? (i := 38) rfl))) (Or.inl (hw _ (List.mem_of_getElem? (i := 41) rfl))) (by decide) (t := (.array .byte)) (t' := (.array .long)) (by decide) (by decide)))
  have F_kinds := F_kinds.other W5 (Or.inr (slot_ne (Or.inl (hw _ (List.mem_of_getElem? (i := 44) rfl))) (Or.inl (hw _ (List.mem_of_getElem? (i := 41) rfl))) (by decide) (t := (.array .int)) (t' := (.array .long)) (by decide) (by decide)))
  have F_propertyCount := F_propertyCount.other W5 (Or.inr (slot_ne (Or.inr (hw _ (List.mem_of_getElem? (i := 46) rfl))) (Or.inl (hw _ (List.mem_of_getElem? (i := 41) rfl))) (by decide) (t := .int) (t' := (.array .long)) (by decide) (by decide)))
  have F_properties := F_properties.other W5 (Or.inr (slot_ne (Or.inl (hw _ (List.mem_of_getElem? (i := 50) rfl))) (Or.inl (hw _ (List.mem_of_getElem? (i := 41) rfl))) (by decide) (t := (.array (.object "java/lang/String"))) (t' := (.array .long)) (by decide) (by decide)))
  have F_size := F_size.other W5 (Or.inr (slot_ne (Or.inl (hw _ (List.mem_of_getElem? (i := 57) rfl))) (Or.inl (hw _ (List.mem_of_getElem? (i := 41) rfl))) (by decide) (t := .int) (t' := (.array .long)) (by decide) (by decide)))
  have Ea := Ea.wr W5
  have V_bi := V_bi.other W5 (Ne.symm ne_a_bi)
  have V_tt := V_tt.other W5 (Ne.symm ne_a_tt)
  have Z0'''' := Nat.le_trans Z0''' (Keep.of_wr W5).1
  have Kp := Kp.wr W5 (Or.inl (List.mem_of_getElem? (i := 0) rfl))
  have N0'' := Fr.snoc X5 N0' ga
  have F_times := F_times.same W5
  refine own_st (T' := T5) (g' := (mkF m 19 #[.val (.ref a), .val (.int pc)] [])) st5 ?_
  refine own_st (T' := T5) (g' := (mkF m 20 #[.val (.ref a), .val (.int pc)] [(.ref a)])) (fun _ k => XS.aloadN X5.here hx rfl (hb hby d7_19) rfl rfl k) ?_
  refine own_st (T' := T5) (g' := (mkF m 22 #[.val (.ref a), .val (.int pc)] [(.int (16 : Int32)), (.ref a)])) (fun _ k => XS.bipush X5.here hx rfl (hb hby d7_20) k) ?_
  obtain ⟨T6, h6, k6, X6, e6, E6, A6, st6⟩ := newP X5 hx hZ (hw _ (List.mem_of_getElem? (i := 42) rfl)) e5 (g := (mkF m 22 #[.val (.ref a), .val (.int pc)] [(.int (16 : Int32)), (.ref a)])) rfl (hb hby d7_22) rfl (by decide) (cap := 16) (by decide) (by decide) (by decide) (by decide)
  obtain ⟨tk, gtk⟩ : ∃ z, z = h5.size := ⟨_, rfl⟩
  rw [← gtk] at A6 st6
  have ne_a_tk : a ≠ tk := own_ne F_id.lt gtk
  have ne_bi_tk : bi ≠ tk := own_ne V_bi.lt gtk
  have ne_tt_tk : tt ≠ tk := own_ne V_tt.lt gtk
  have ge_tk : n0 ≤ tk := own_ge Z0'''' gtk
  have sz_tk : h0.size ≤ tk := own_ge Kp.1 gtk
  have F_id := F_id.ext E6
  have F_times := F_times.ext E6
  have F_kinds := F_kinds.ext E6
  have F_propertyCount := F_propertyCount.ext E6
  have F_properties := F_properties.ext E6
  have F_size := F_size.ext E6
  have Ea := Ea.ext E6
  have V_bi := V_bi.ext E6
  have V_tt := V_tt.ext E6
  have Z0''''' := Nat.le_trans Z0'''' E6.1
  have Kp := Kp.ext E6
  have V_tk := own_Av.new (n := 16) A6 rfl
  refine own_st (T' := T6) (g' := (mkF m 24 #[.val (.ref a), .val (.int pc)] [(.ref tk), (.ref a)])) st6 ?_
  obtain ⟨T7, h7, X7, e7, W7, st7⟩ := putF X6 hx hZ hown (host := "") (Or.inl (hw _ (List.mem_of_getElem? (i := 43) rfl))) Via.refl e6 F_kinds Ea (Or.inl (hw _ (List.mem_of_getElem? (i := 44) rfl))) (hw _ (List.mem_of_getElem? (i := 31) rfl)) (ty := (.array .int)) (by decide) rfl rfl (g := (mkF m 24 #[.val (.ref a), .val (.int pc)] [(.ref tk), (.ref a)])) rfl rfl (hb hby d7_24)
  have F_id := F_id.other W7 (Or.inr (slot_ne (Or.inl (hw _ (List.mem_of_getElem? (i := 38) rfl))) (Or.inl (hw _ (List.mem_of_getElem? (i := 44) rfl))) (by decide) (t := (.array .byte)) (t' := (.array .int)) (by decide) (by decide)))
  have F_times := F_times.other W7 (Or.inr (slot_ne (Or.inl (hw _ (List.mem_of_getElem? (i := 41) rfl))) (Or.inl (hw _ (List.mem_of_getElem? (i := 44) rfl))) (by decide) (t := (.array .long)) (t' := (.array .int)) (by decide) (by decide)))
  have F_propertyCount := F_propertyCount.other W7 (Or.inr (slot_ne (Or.inr (hw _ (List.mem_of_getElem? (i := 46) rfl))) (Or.inl (hw _ (List.mem_of_getElem? (i := 44) rfl))) (by decide) (t := .int) (t' := (.array .int)) (by decide) (by decide)))
  have F_properties := F_properties.other W7 (Or.inr (slot_ne (Or.inl (hw _ (List.mem_of_getElem? (i := 50) rfl))) (Or.inl (hw _ (List.mem_of_getElem? (i := 44) rfl))) (by decide) (t := (.array (.object "java/lang/String"))) (t' := (.array .int)) (by decide) (by decide)))
  have F_size := F_size.other W7 (Or.inr (slot_ne (Or.inl (hw _ (List.mem_of_getElem? (i := 57) rfl))) (Or.inl (hw _ (List.mem_of_getElem? (i := 44) rfl))) (by decide) (t := .int) (t' := (.array .int)) (by decide) (by decide)))
  have Ea := Ea.wr W7
  have V_bi := V_bi.other W7 (Ne.symm ne_a_bi)
  have V_tt := V_tt.other W7 (Ne.symm ne_a_tt)
  have V_tk := V_tk.other W7 (Ne.symm ne_a_tk)
  have Z0'''''' := Nat.le_trans Z0''''' (Keep.of_wr W7).1
  have Kp := Kp.wr W7 (Or.inl (List.mem_of_getElem? (i := 0) rfl))
  have N0''' := Fr.snoc X7 N0'' ga
  have F_kinds := F_kinds.same W7
  refine own_st (T' := T7) (g' := (mkF m 27 #[.val (.ref a), .val (.int pc)] [])) st7 ?_
  refine own_st (T' := T7) (g' := (mkF m 28 #[.val (.ref a), .val (.int pc)] [(.ref a)])) (fun _ k => XS.aloadN X7.here hx rfl (hb hby d7_27) rfl rfl k) ?_
  refine own_st (T' := T7) (g' := (mkF m 29 #[.val (.ref a), .val (.int pc)] [(.int pc), (.ref a)])) (fun _ k => XS.iloadN X7.here hx rfl (hb hby d7_28) rfl k) ?_
  obtain ⟨T8, h8, X8, e8, W8, st8⟩ := putF X7 hx hZ hown (host := "") (Or.inl (hw _ (List.mem_of_getElem? (i := 45) rfl))) Via.refl e7 F_propertyCount Ea (Or.inr ⟨(hw _ (List.mem_of_getElem? (i := 46) rfl)), rfl, hnm⟩) (hw _ (List.mem_of_getElem? (i := 31) rfl)) (ty := .int) (by decide) rfl rfl (g := (mkF m 29 #[.val (.ref a), .val (.int pc)] [(.int pc), (.ref a)])) rfl rfl (hb hby d7_29)
  have F_id := F_id.other W8 (Or.inr (slot_ne (Or.inl (hw _ (List.mem_of_getElem? (i := 38) rfl))) (Or.inr (hw _ (List.mem_of_getElem? (i := 46) rfl))) (by decide) (t := (.array .byte)) (t' := .int) (by decide) (by decide)))
  have F_times := F_times.other W8 (Or.inr (slot_ne (Or.inl (hw _ (List.mem_of_getElem? (i := 41) rfl))) (Or.inr (hw _ (List.mem_of_getElem? (i := 46) rfl))) (by decide) (t := (.array .long)) (t' := .int) (by decide) (by decide)))
  have F_kinds := F_kinds.other W8 (Or.inr (slot_ne (Or.inl (hw _ (List.mem_of_getElem? (i := 44) rfl))) (Or.inr (hw _ (List.mem_of_getElem? (i := 46) rfl))) (by decide) (t := (.array .int)) (t' := .int) (by decide) (by decide)))
  have F_properties := F_properties.other W8 (Or.inr (slot_ne (Or.inl (hw _ (List.mem_of_getElem? (i := 50) rfl))) (Or.inr (hw _ (List.mem_of_getElem? (i := 46) rfl))) (by decide) (t := (.array (.object "java/lang/String"))) (t' := .int) (by decide) (by decide)))
  have F_size := F_size.other W8 (Or.inr (slot_ne (Or.inl (hw _ (List.mem_of_getElem? (i := 57) rfl))) (Or.inr (hw _ (List.mem_of_getElem? (i := 46) rfl))) (by decide) (t := .int) (t' := .int) (by decide) (by decide)))
  have Ea := Ea.wr W8
  have V_bi := V_bi.other W8 (Ne.symm ne_a_bi)
  have V_tt := V_tt.other W8 (Ne.symm ne_a_tt)
  have V_tk := V_tk.other W8 (Ne.symm ne_a_tk)
  have Z0''''''' := Nat.le_trans Z0'''''' (Keep.of_wr W8).1
  have Kp := Kp.wr W8 (Or.inl (List.mem_of_getElem? (i := 0) rfl))
  have N0'''' := Fr.snoc X8 N0''' ga
  have F_propertyCount := F_propertyCount.same W8
  refine own_st (T' := T8) (g' := (mkF m 32 #[.val (.ref a), .val (.int pc)] [])) st8 ?_
  refine own_st (T' := T8) (g' := (mkF m 33 #[.val (.ref a), .val (.int pc)] [(.ref a)])) (fun _ k => XS.aloadN X8.here hx rfl (hb hby d7_32) rfl rfl k) ?_
  refine own_st (T' := T8) (g' := (mkF m 34 #[.val (.ref a), .val (.int pc)] [(.ref a), (.ref a)])) (fun _ k => XS.aloadN X8.here hx rfl (hb hby d7_33) rfl rfl k) ?_
  obtain ⟨T9, X9, e9, st9⟩ := getF X8 hx hZ hown (host := "") (Or.inl (hw _ (List.mem_of_getElem? (i := 40) rfl))) Via.refl e8 F_times (g := (mkF m 34 #[.val (.ref a), .val (.int pc)] [(.ref a), (.ref a)])) rfl rfl (hb hby d7_34)
  refine own_st (T' := T9) (g' := (mkF m 37 #[.val (.ref a), .val (.int pc)] [(.ref tt), (.ref a)])) st9 ?_
  refine own_st (T' := T9) (g' := (mkF m 38 #[.val (.ref a), .val (.int pc)] [(.int (16 : Int32)), (.ref a)])) (own_len X9 hx hZ e9 V_tt (z := (16 : Int32)) rfl (g := (mkF m 37 #[.val (.ref a), .val (.int pc)] [(.ref tt), (.ref a)])) rfl rfl (hb hby d7_37)) ?_
  refine own_st (T' := T9) (g' := (mkF m 39 #[.val (.ref a), .val (.int pc)] [(.int pc), (.int (16 : Int32)), (.ref a)])) (fun _ k => XS.iloadN X9.here hx rfl (hb hby d7_38) rfl k) ?_
  refine own_st (T' := T9) (g' := (mkF m 40 #[.val (.ref a), .val (.int pc)] [(.int ((16 : Int32) * pc)), (.ref a)])) (fun _ k => XS.imul X9.here hx rfl (hb hby d7_39) rfl k) ?_
  obtain ⟨T10, h10, k10, X10, e10, E10, A10, O10, st10⟩ := newR X9 hx hZ hown (hw _ (List.mem_of_getElem? (i := 47) rfl)) (hw _ (List.mem_of_getElem? (i := 48) rfl)) e9 (g := (mkF m 40 #[.val (.ref a), .val (.int pc)] [(.int ((16 : Int32) * pc)), (.ref a)])) rfl (hb hby d7_40) rfl (own_lt0 (by omega)) (cap := 64) (by rw [own_idx hN]; exact hN64) (by decide) (by decide) (by decide)
  obtain ⟨t, gt⟩ : ∃ z, z = h8.size := ⟨_, rfl⟩
  rw [← gt] at A10 st10
  have ne_a_t : a ≠ t := own_ne F_id.lt gt
  have ne_bi_t : bi ≠ t := own_ne V_bi.lt gt
  have ne_tt_t : tt ≠ t := own_ne V_tt.lt gt
  have ne_tk_t : tk ≠ t := own_ne V_tk.lt gt
  have ge_t : n0 ≤ t := own_ge Z0''''''' gt
  have sz_t : h0.size ≤ t := own_ge Kp.1 gt
  have F_id := F_id.ext E10
  have F_times := F_times.ext E10
  have F_kinds := F_kinds.ext E10
  have F_propertyCount := F_propertyCount.ext E10
  have F_properties := F_properties.ext E10
  have F_size := F_size.ext E10
  have Ea := Ea.ext E10
  have V_bi := V_bi.ext E10
  have V_tt := V_tt.ext E10
  have V_tk := V_tk.ext E10
  have Z0'''''''' := Nat.le_trans Z0''''''' E10.1
  have Kp := Kp.ext E10
  have V_t := own_Av.new (n := N) A10 (own_idx hN)
  refine own_st (T' := T10) (g' := (mkF m 43 #[.val (.ref a), .val (.int pc)] [(.ref t), (.ref a)])) st10 ?_
  obtain ⟨T11, h11, X11, e11, W11, st11⟩ := putF X10 hx hZ hown (host := "") (Or.inl (hw _ (List.mem_of_getElem? (i := 49) rfl))) Via.refl e10 F_properties Ea (Or.inl (hw _ (List.mem_of_getElem? (i := 50) rfl))) (hw _ (List.mem_of_getElem? (i := 31) rfl)) (ty := (.array (.object "java/lang/String"))) (by decide) rfl rfl (g := (mkF m 43 #[.val (.ref a), .val (.int pc)] [(.ref t), (.ref a)])) rfl rfl (hb hby d7_43)
  have F_id := F_id.other W11 (Or.inr (slot_ne (Or.inl (hw _ (List.mem_of_getElem? (i := 38) rfl))) (Or.inl (hw _ (List.mem_of_getElem? (i := 50) rfl))) (by decide) (t := (.array .byte)) (t' := (.array (.object "java/lang/String"))) (by decide) (by decide)))
  have F_times := F_times.other W11 (Or.inr (slot_ne (Or.inl (hw _ (List.mem_of_getElem? (i := 41) rfl))) (Or.inl (hw _ (List.mem_of_getElem? (i := 50) rfl))) (by decide) (t := (.array .long)) (t' := (.array (.object "java/lang/String"))) (by decide) (by decide)))
  have F_kinds := F_kinds.other W11 (Or.inr (slot_ne (Or.inl (hw _ (List.mem_of_getElem? (i := 44) rfl))) (Or.inl (hw _ (List.mem_of_getElem? (i := 50) rfl))) (by decide) (t := (.array .int)) (t' := (.array (.object "java/lang/String"))) (by decide) (by decide)))
  have F_propertyCount := F_propertyCount.other W11 (Or.inr (slot_ne (Or.inr (hw _ (List.mem_of_getElem? (i := 46) rfl))) (Or.inl (hw _ (List.mem_of_getElem? (i := 50) rfl))) (by decide) (t := .int) (t' := (.array (.object "java/lang/String"))) (by decide) (by decide)))
  have F_size := F_size.other W11 (Or.inr (slot_ne (Or.inl (hw _ (List.mem_of_getElem? (i := 57) rfl))) (Or.inl (hw _ (List.mem_of_getElem? (i := 50) rfl))) (by decide) (t := .int) (t' := (.array (.object "java/lang/String"))) (by decide) (by decide)))
  have Ea := Ea.wr W11
  have V_bi := V_bi.other W11 (Ne.symm ne_a_bi)
  have V_tt := V_tt.other W11 (Ne.symm ne_a_tt)
  have V_tk := V_tk.other W11 (Ne.symm ne_a_tk)
  have V_t := V_t.other W11 (Ne.symm ne_a_t)
  have Z0''''''''' := Nat.le_trans Z0'''''''' (Keep.of_wr W11).1
  have Kp := Kp.wr W11 (Or.inl (List.mem_of_getElem? (i := 0) rfl))
  have N0''''' := Fr.snoc X11 N0'''' ga
  have F_properties := F_properties.same W11
  refine own_st (T' := T11) (g' := (mkF m 46 #[.val (.ref a), .val (.int pc)] [])) st11 ?_
  exact own_ret0 X11 hx Bd.returns Bd.notSynchronized e11 (hb hby d7_46) ⟨rfl, N0''''', Kp, tt, _, tk, _, t, _, F_times, F_kinds, F_propertyCount, F_properties, F_size, ⟨bi, F_id⟩, (V_tt.to (fun _ _ => rfl)), (V_tk.to (fun _ _ => rfl)), V_t, O10, sz_tt, sz_tk, sz_t, ne_tt_tk, ne_tt_t, ne_tk_t⟩ (by decide) (by decide)
theorem d8_0 : decode prog_22_method_8_code 0 = .ok (.aload_n 0, 1) := by decide +kernel
theorem d8_1 : decode prog_22_method_8_code 1 = .ok (.getfield 47, 3) := by decide +kernel
theorem d8_4 : decode prog_22_method_8_code 4 = .ok (.aload_n 0, 1) := by decide +kernel
theorem d8_5 : decode prog_22_method_8_code 5 = .ok (.getfield 13, 3) := by decide +kernel
theorem d8_8 : decode prog_22_method_8_code 8 = .ok (.arraylength, 1) := by decide +kernel
theorem d8_9 : decode prog_22_method_8_code 9 = .ok (.if_icmp .ne 62, 3) := by decide +kernel
theorem d8_71 : decode prog_22_method_8_code 71 = .ok (.aload_n 0, 1) := by decide +kernel
theorem d8_72 : decode prog_22_method_8_code 72 = .ok (.getfield 13, 3) := by decide +kernel
theorem d8_75 : decode prog_22_method_8_code 75 = .ok (.aload_n 0, 1) := by decide +kernel
theorem d8_76 : decode prog_22_method_8_code 76 = .ok (.getfield 47, 3) := by decide +kernel
theorem d8_79 : decode prog_22_method_8_code 79 = .ok (.lload_n 1, 1) := by decide +kernel
theorem d8_80 : decode prog_22_method_8_code 80 = .ok (.lastore, 1) := by decide +kernel
theorem d8_81 : decode prog_22_method_8_code 81 = .ok (.aload_n 0, 1) := by decide +kernel
theorem d8_82 : decode prog_22_method_8_code 82 = .ok (.getfield 17, 3) := by decide +kernel
theorem d8_85 : decode prog_22_method_8_code 85 = .ok (.aload_n 0, 1) := by decide +kernel
theorem d8_86 : decode prog_22_method_8_code 86 = .ok (.getfield 47, 3) := by decide +kernel
theorem d8_89 : decode prog_22_method_8_code 89 = .ok (.iload_n 3, 1) := by decide +kernel
theorem d8_90 : decode prog_22_method_8_code 90 = .ok (.iastore, 1) := by decide +kernel
theorem d8_91 : decode prog_22_method_8_code 91 = .ok (.aload_n 0, 1) := by decide +kernel
theorem d8_92 : decode prog_22_method_8_code 92 = .ok (.dup, 1) := by decide +kernel
theorem d8_93 : decode prog_22_method_8_code 93 = .ok (.getfield 47, 3) := by decide +kernel
theorem d8_96 : decode prog_22_method_8_code 96 = .ok (.dup_x1, 1) := by decide +kernel
theorem d8_97 : decode prog_22_method_8_code 97 = .ok (.iconst 1, 1) := by decide +kernel
theorem d8_98 : decode prog_22_method_8_code 98 = .ok (.iadd, 1) := by decide +kernel
theorem d8_99 : decode prog_22_method_8_code 99 = .ok (.putfield 47, 3) := by decide +kernel
theorem d8_102 : decode prog_22_method_8_code 102 = .ok (.ireturn, 1) := by decide +kernel
def own_uadd_Q (Z : State) (a : Addr) (tm : Int64) (kd : Int32) (tt : Addr) (kt : ClassId) (f1 : Nat → Value) (tk : Addr) (kk : ClassId) (f2 : Nat → Value) (z : Int32) (i : Nat) (r_id : Value) (r_propertyCount : Value) (r_properties : Value) (h0 : Heap) (n0 : Nat) (v : Option Value) (h : Heap) (L : List Loc) : Prop := v = some (.int z) ∧ Fr n0 L ∧ Keep h0 h [a, tt, tk] ∧ Fld Z h a "com/example/funnelwright/funnelwright/UserEvents" "times" "[J" (.ref tt) ∧ Fld Z h a "com/example/funnelwright/funnelwright/UserEvents" "kinds" "[I" (.ref tk) ∧ Fld Z h a "com/example/funnelwright/funnelwright/UserEvents" "size" "I" (.int (z + (1 : Int32))) ∧ Fld Z h a "com/example/funnelwright/funnelwright/UserEvents" "id" "[B" r_id ∧ Fld Z h a "com/example/funnelwright/funnelwright/UserEvents" "propertyCount" "I" r_propertyCount ∧ Fld Z h a "com/example/funnelwright/funnelwright/UserEvents" "properties" "[Ljava/lang/String;" r_properties ∧ (∃ f, own_Av Z h tt kt .long 16 f) ∧ (∃ f, own_Av Z h tk kk .int 16 f)
set_option maxRecDepth 65536 in
set_option maxHeartbeats 40000000 in
theorem own_uadd (l : Launch) (Z : State) (a0 : Array Value) (hw : ∀ d ∈ tables_1, d.before a0 Z = true) (ws : List Jvm.Cond) (a : Addr) (tm : Int64) (kd : Int32) (tt : Addr) (kt : ClassId) (f1 : Nat → Value) (tk : Addr) (kk : ClassId) (f2 : Nat → Value) (z : Int32) (i : Nat) (r_id : Value) (r_propertyCount : Value) (r_properties : Value) (h0 : Heap) (n0 : Nat) (Z0 : n0 ≤ h0.size) (Ft : Fld Z h0 a "com/example/funnelwright/funnelwright/UserEvents" "times" "[J" (.ref tt)) (Fk : Fld Z h0 a "com/example/funnelwright/funnelwright/UserEvents" "kinds" "[I" (.ref tk)) (Fz : Fld Z h0 a "com/example/funnelwright/funnelwright/UserEvents" "size" "I" (.int z)) (Ea : Exa Z h0 a "com/example/funnelwright/funnelwright/UserEvents") (Vt : own_Av Z h0 tt kt .long 16 f1) (Vk : own_Av Z h0 tk kk .int 16 f2) (F_id : Fld Z h0 a "com/example/funnelwright/funnelwright/UserEvents" "id" "[B" r_id) (F_propertyCount : Fld Z h0 a "com/example/funnelwright/funnelwright/UserEvents" "propertyCount" "I" r_propertyCount) (F_properties : Fld Z h0 a "com/example/funnelwright/funnelwright/UserEvents" "properties" "[Ljava/lang/String;" r_properties) (nt : a ≠ tt) (nk : a ≠ tk) (ntk : tt ≠ tk) (ga : n0 ≤ a) (gt : n0 ≤ tt) (gk : n0 ≤ tk) (hi : z.toInt = i) (hi16 : i < 16) (hz16 : ¬ z = (16 : Int32)) :
    MetFree l (⟨"com/example/funnelwright/funnelwright/UserEvents", "add", "(JI)I"⟩ : MethodName) (head1 (Jvm.Cond.code (⟨"com/example/funnelwright/funnelwright/UserEvents", "add", "(JI)I"⟩ : MethodName) prog_22_method_8_code 4 (some .int) :: ws) ({ frames := 0, cells := 0, slots := 0, locals := 0 } : Room)) (fun aa U0 => aa = #[(.ref a), (.long tm), (.int kd)] ∧ Z.Warmed39 U0.vm ∧ U0.heap = h0) (fun _ _ _ _ _ => True) (fun _ U0 o0 U1 => ∃ v0 L0, o0 = .returned v0 ∧ own_uadd_Q Z a tm kd tt kt f1 tk kk f2 z i r_id r_propertyCount r_properties h0 n0 v0 U1.heap L0 ∧ FrameEnd U0 o0 U1 L0 ({ frames := 0, cells := 0, slots := 0, locals := 0 } : Room).cells ({ frames := 0, cells := 0, slots := 0, locals := 0 } : Room).slots) := by
  refine MetFree.of_bodySF (plainFor_of_name own_pn0) hisR ?_
  intro p e s m args below meth c s₁ Bd hml0 hP hK
  obtain ⟨rfl, hZ, hh⟩ := hP
  have hx := Bd.exec
  have hby := Bd.bytes
  have hml : c.maxLocals = 4 := hml0
  have hown : s.vm.findClass "com/example/funnelwright/funnelwright/UserEvents" = some m.cls := findClass_of_methodNamed Bd.named
  have hnm := (name_of_methodNamed Bd.named Bd.method).1
  have X0 : Stand p l e ({ frames := 0, cells := 0, slots := 0, locals := 0 } : Room) s m #[(.ref a), (.long tm), (.int kd)] below meth c s₁ [] 0 0 := Stand.of_body Bd
  have e0 : s₁.heap = h0 := by rw [← hh, Bd.state]; rfl
  have N0 := Fr.nil n0
  show own_Go p e below s (own_uadd_Q Z a tm kd tt kt f1 tk kk f2 z i r_id r_propertyCount r_properties h0 n0) 0 0 s₁ (entryFrame m #[(.ref a), (.long tm), (.int kd)] 4)
  rw [show entryFrame m #[(.ref a), (.long tm), (.int kd)] 4 = mkF m 0 #[.val (.ref a), .val (.long tm), .second, .val (.int kd)] [] from by first | (simp [entryFrame, mkF, argsToLocals, Value.category]; done) | rfl]
  have Kp := Keep.refl h0 [a, tt, tk]
  refine own_st (T' := s₁) (g' := (mkF m 1 #[.val (.ref a), .val (.long tm), .second, .val (.int kd)] [(.ref a)])) (fun _ k => XS.aloadN X0.here hx rfl (hb hby d8_0) rfl rfl k) ?_
  obtain ⟨T12, X12, e12, st12⟩ := getF X0 hx hZ hown (host := "") (Or.inl (hw _ (List.mem_of_getElem? (i := 56) rfl))) Via.refl e0 Fz (g := (mkF m 1 #[.val (.ref a), .val (.long tm), .second, .val (.int kd)] [(.ref a)])) rfl rfl (hb hby d8_1)
  refine own_st (T' := T12) (g' := (mkF m 4 #[.val (.ref a), .val (.long tm), .second, .val (.int kd)] [(.int z)])) st12 ?_
  refine own_st (T' := T12) (g' := (mkF m 5 #[.val (.ref a), .val (.long tm), .second, .val (.int kd)] [(.ref a), (.int z)])) (fun _ k => XS.aloadN X12.here hx rfl (hb hby d8_4) rfl rfl k) ?_
  obtain ⟨T13, X13, e13, st13⟩ := getF X12 hx hZ hown (host := "") (Or.inl (hw _ (List.mem_of_getElem? (i := 40) rfl))) Via.refl e12 Ft (g := (mkF m 5 #[.val (.ref a), .val (.long tm), .second, .val (.int kd)] [(.ref a), (.int z)])) rfl rfl (hb hby d8_5)
  refine own_st (T' := T13) (g' := (mkF m 8 #[.val (.ref a), .val (.long tm), .second, .val (.int kd)] [(.ref tt), (.int z)])) st13 ?_
  refine own_st (T' := T13) (g' := (mkF m 9 #[.val (.ref a), .val (.long tm), .second, .val (.int kd)] [(.int (16 : Int32)), (.int z)])) (own_len X13 hx hZ e13 Vt (z := (16 : Int32)) rfl (g := (mkF m 8 #[.val (.ref a), .val (.long tm), .second, .val (.int kd)] [(.ref tt), (.int z)])) rfl rfl (hb hby d8_8)) ?_
  refine own_st (T' := T13) (g' := (mkF m 71 #[.val (.ref a), .val (.long tm), .second, .val (.int kd)] [])) (fun _ k => XS.icmpYes X13.here hx rfl (pc0 := 9) (pc' := 71) rfl (hb hby d8_9) rfl (Jvm.Free.XT.ii_ne_t hz16) (by decide) (by decide) k) ?_
  refine own_st (T' := T13) (g' := (mkF m 72 #[.val (.ref a), .val (.long tm), .second, .val (.int kd)] [(.ref a)])) (fun _ k => XS.aloadN X13.here hx rfl (hb hby d8_71) rfl rfl k) ?_
  obtain ⟨T14, X14, e14, st14⟩ := getF X13 hx hZ hown (host := "") (Or.inl (hw _ (List.mem_of_getElem? (i := 40) rfl))) Via.refl e13 Ft (g := (mkF m 72 #[.val (.ref a), .val (.long tm), .second, .val (.int kd)] [(.ref a)])) rfl rfl (hb hby d8_72)
  refine own_st (T' := T14) (g' := (mkF m 75 #[.val (.ref a), .val (.long tm), .second, .val (.int kd)] [(.ref tt)])) st14 ?_
  refine own_st (T' := T14) (g' := (mkF m 76 #[.val (.ref a), .val (.long tm), .second, .val (.int kd)] [(.ref a), (.ref tt)])) (fun _ k => XS.aloadN X14.here hx rfl (hb hby d8_75) rfl rfl k) ?_
  obtain ⟨T15, X15, e15, st15⟩ := getF X14 hx hZ hown (host := "") (Or.inl (hw _ (List.mem_of_getElem? (i := 56) rfl))) Via.refl e14 Fz (g := (mkF m 76 #[.val (.ref a), .val (.long tm), .second, .val (.int kd)] [(.ref a), (.ref tt)])) rfl rfl (hb hby d8_76)
  refine own_st (T' := T15) (g' := (mkF m 79 #[.val (.ref a), .val (.long tm), .second, .val (.int kd)] [(.int z), (.ref tt)])) st15 ?_
  refine own_st (T' := T15) (g' := (mkF m 80 #[.val (.ref a), .val (.long tm), .second, .val (.int kd)] [(.long tm), (.int z), (.ref tt)])) (fun _ k => XS.lloadN X15.here hx rfl (hb hby d8_79) rfl k) ?_
  obtain ⟨T16, h16, X16, e16, W16, V16, st16⟩ := own_stJ X15 hx hZ e15 Vt (i := i) hi hi16 (g := (mkF m 80 #[.val (.ref a), .val (.long tm), .second, .val (.int kd)] [(.long tm), (.int z), (.ref tt)])) rfl rfl (hb hby d8_80)
  have Ft := Ft.other W16 (Or.inl nt)
  have Fk := Fk.other W16 (Or.inl nt)
  have Fz := Fz.other W16 (Or.inl nt)
  have Ea := Ea.wr W16
  have Vk := Vk.other W16 (Ne.symm ntk)
  have F_id := F_id.other W16 (Or.inl nt)
  have F_propertyCount := F_propertyCount.other W16 (Or.inl nt)
  have F_properties := F_properties.other W16 (Or.inl nt)
  have Z0' := Nat.le_trans Z0 (Keep.of_wr W16).1
  have Kp := Kp.wr W16 (Or.inl (List.mem_of_getElem? (i := 1) rfl))
  have N0' := Fr.snoc X16 N0 gt
  have Vt := V16
  refine own_st (T' := T16) (g' := (mkF m 81 #[.val (.ref a), .val (.long tm), .second, .val (.int kd)] [])) st16 ?_
  refine own_st (T' := T16) (g' := (mkF m 82 #[.val (.ref a), .val (.long tm), .second, .val (.int kd)] [(.ref a)])) (fun _ k => XS.aloadN X16.here hx rfl (hb hby d8_81) rfl rfl k) ?_
  obtain ⟨T17, X17, e17, st17⟩ := getF X16 hx hZ hown (host := "") (Or.inl (hw _ (List.mem_of_getElem? (i := 43) rfl))) Via.refl e16 Fk (g := (mkF m 82 #[.val (.ref a), .val (.long tm), .second, .val (.int kd)] [(.ref a)])) rfl rfl (hb hby d8_82)
  refine own_st (T' := T17) (g' := (mkF m 85 #[.val (.ref a), .val (.long tm), .second, .val (.int kd)] [(.ref tk)])) st17 ?_
  refine own_st (T' := T17) (g' := (mkF m 86 #[.val (.ref a), .val (.long tm), .second, .val (.int kd)] [(.ref a), (.ref tk)])) (fun _ k => XS.aloadN X17.here hx rfl (hb hby d8_85) rfl rfl k) ?_
  obtain ⟨T18, X18, e18, st18⟩ := getF X17 hx hZ hown (host := "") (Or.inl (hw _ (List.mem_of_getElem? (i := 56) rfl))) Via.refl e17 Fz (g := (mkF m 86 #[.val (.ref a), .val (.long tm), .second, .val (.int kd)] [(.ref a), (.ref tk)])) rfl rfl (hb hby d8_86)
  refine own_st (T' := T18) (g' := (mkF m 89 #[.val (.ref a), .val (.long tm), .second, .val (.int kd)] [(.int z), (.ref tk)])) st18 ?_
  refine own_st (T' := T18) (g' := (mkF m 90 #[.val (.ref a), .val (.long tm), .second, .val (.int kd)] [(.int kd), (.int z), (.ref tk)])) (fun _ k => XS.iloadN X18.here hx rfl (hb hby d8_89) rfl k) ?_
  obtain ⟨T19, h19, X19, e19, W19, V19, st19⟩ := own_stI X18 hx hZ e18 Vk (i := i) hi hi16 (g := (mkF m 90 #[.val (.ref a), .val (.long tm), .second, .val (.int kd)] [(.int kd), (.int z), (.ref tk)])) rfl rfl (hb hby d8_90)
  have Ft := Ft.other W19 (Or.inl nk)
  have Fk := Fk.other W19 (Or.inl nk)
  have Fz := Fz.other W19 (Or.inl nk)
  have Ea := Ea.wr W19
  have Vt := Vt.other W19 ntk
  have F_id := F_id.other W19 (Or.inl nk)
  have F_propertyCount := F_propertyCount.other W19 (Or.inl nk)
  have F_properties := F_properties.other W19 (Or.inl nk)
  have Z0'' := Nat.le_trans Z0' (Keep.of_wr W19).1
  have Kp := Kp.wr W19 (Or.inl (List.mem_of_getElem? (i := 2) rfl))
  have N0'' := Fr.snoc X19 N0' gk
  have Vk := V19
  refine own_st (T' := T19) (g' := (mkF m 91 #[.val (.ref a), .val (.long tm), .second, .val (.int kd)] [])) st19 ?_
  refine own_st (T' := T19) (g' := (mkF m 92 #[.val (.ref a), .val (.long tm), .second, .val (.int kd)] [(.ref a)])) (fun _ k => XS.aloadN X19.here hx rfl (hb hby d8_91) rfl rfl k) ?_
  refine own_st (T' := T19) (g' := (mkF m 93 #[.val (.ref a), .val (.long tm), .second, .val (.int kd)] [(.ref a), (.ref a)])) (fun _ k => XS.dup X19.here hx rfl (hb hby d8_92) rfl rfl k) ?_
  obtain ⟨T20, X20, e20, st20⟩ := getF X19 hx hZ hown (host := "") (Or.inl (hw _ (List.mem_of_getElem? (i := 56) rfl))) Via.refl e19 Fz (g := (mkF m 93 #[.val (.ref a), .val (.long tm), .second, .val (.int kd)] [(.ref a), (.ref a)])) rfl rfl (hb hby d8_93)
  refine own_st (T' := T20) (g' := (mkF m 96 #[.val (.ref a), .val (.long tm), .second, .val (.int kd)] [(.int z), (.ref a)])) st20 ?_
  refine own_st (T' := T20) (g' := (mkF m 97 #[.val (.ref a), .val (.long tm), .second, .val (.int kd)] [(.int z), (.ref a), (.int z)])) (fun _ k => XS.dupX1 X20.here hx rfl (hb hby d8_96) rfl rfl rfl k) ?_
  refine own_st (T' := T20) (g' := (mkF m 98 #[.val (.ref a), .val (.long tm), .second, .val (.int kd)] [(.int (1 : Int32)), (.int z), (.ref a), (.int z)])) (fun _ k => XS.iconst X20.here hx rfl (hb hby d8_97) k) ?_
  refine own_st (T' := T20) (g' := (mkF m 99 #[.val (.ref a), .val (.long tm), .second, .val (.int kd)] [(.int (z + (1 : Int32))), (.ref a), (.int z)])) (fun _ k => XS.iadd X20.here hx rfl (hb hby d8_98) rfl k) ?_
  obtain ⟨T21, h21, X21, e21, W21, st21⟩ := putF X20 hx hZ hown (host := "") (Or.inl (hw _ (List.mem_of_getElem? (i := 56) rfl))) Via.refl e20 Fz Ea (Or.inl (hw _ (List.mem_of_getElem? (i := 57) rfl))) (hw _ (List.mem_of_getElem? (i := 31) rfl)) (ty := .int) (by decide) rfl rfl (g := (mkF m 99 #[.val (.ref a), .val (.long tm), .second, .val (.int kd)] [(.int (z + (1 : Int32))), (.ref a), (.int z)])) rfl rfl (hb hby d8_99)
  have Ft := Ft.other W21 (Or.inr (slot_ne (Or.inl (hw _ (List.mem_of_getElem? (i := 41) rfl))) (Or.inl (hw _ (List.mem_of_getElem? (i := 57) rfl))) (by decide) (t := (.array .long)) (t' := .int) (by decide) (by decide)))
  have Fk := Fk.other W21 (Or.inr (slot_ne (Or.inl (hw _ (List.mem_of_getElem? (i := 44) rfl))) (Or.inl (hw _ (List.mem_of_getElem? (i := 57) rfl))) (by decide) (t := (.array .int)) (t' := .int) (by decide) (by decide)))
  have Ea := Ea.wr W21
  have Vt := Vt.other W21 (Ne.symm nt)
  have Vk := Vk.other W21 (Ne.symm nk)
  have F_id := F_id.other W21 (Or.inr (slot_ne (Or.inl (hw _ (List.mem_of_getElem? (i := 38) rfl))) (Or.inl (hw _ (List.mem_of_getElem? (i := 57) rfl))) (by decide) (t := (.array .byte)) (t' := .int) (by decide) (by decide)))
  have F_propertyCount := F_propertyCount.other W21 (Or.inr (slot_ne (Or.inr (hw _ (List.mem_of_getElem? (i := 46) rfl))) (Or.inl (hw _ (List.mem_of_getElem? (i := 57) rfl))) (by decide) (t := .int) (t' := .int) (by decide) (by decide)))
  have F_properties := F_properties.other W21 (Or.inr (slot_ne (Or.inl (hw _ (List.mem_of_getElem? (i := 50) rfl))) (Or.inl (hw _ (List.mem_of_getElem? (i := 57) rfl))) (by decide) (t := (.array (.object "java/lang/String"))) (t' := .int) (by decide) (by decide)))
  have Z0''' := Nat.le_trans Z0'' (Keep.of_wr W21).1
  have Kp := Kp.wr W21 (Or.inl (List.mem_of_getElem? (i := 0) rfl))
  have N0''' := Fr.snoc X21 N0'' ga
  have Fz := Fz.same W21
  refine own_st (T' := T21) (g' := (mkF m 102 #[.val (.ref a), .val (.long tm), .second, .val (.int kd)] [(.int z)])) st21 ?_
  exact own_retI X21 hx Bd.returns Bd.notSynchronized e21 (hb hby d8_102) ⟨rfl, N0''', Kp, Ft, Fk, Fz, F_id, F_propertyCount, F_properties, ⟨_, Vt⟩, ⟨_, Vk⟩⟩ (by decide) (by decide)
theorem d9_0 : decode prog_22_method_9_code 0 = .ok (.aload_n 0, 1) := by decide +kernel
theorem d9_1 : decode prog_22_method_9_code 1 = .ok (.getfield 27, 3) := by decide +kernel
theorem d9_4 : decode prog_22_method_9_code 4 = .ok (.iload_n 1, 1) := by decide +kernel
theorem d9_5 : decode prog_22_method_9_code 5 = .ok (.aload_n 0, 1) := by decide +kernel
theorem d9_6 : decode prog_22_method_9_code 6 = .ok (.getfield 21, 3) := by decide +kernel
theorem d9_9 : decode prog_22_method_9_code 9 = .ok (.imul, 1) := by decide +kernel
theorem d9_10 : decode prog_22_method_9_code 10 = .ok (.iload_n 2, 1) := by decide +kernel
theorem d9_11 : decode prog_22_method_9_code 11 = .ok (.iadd, 1) := by decide +kernel
theorem d9_12 : decode prog_22_method_9_code 12 = .ok (.aload_n 3, 1) := by decide +kernel
theorem d9_13 : decode prog_22_method_9_code 13 = .ok (.aastore, 1) := by decide +kernel
theorem d9_14 : decode prog_22_method_9_code 14 = .ok (.return_, 1) := by decide +kernel
def own_set_Q (Z : State) (a : Addr) (ev : Int32) (pr : Int32) (sa : Addr) (t : Addr) (pc : Int32) (k : ClassId) (N : Nat) (f : Nat → Value) (i : Nat) (h0 : Heap) (n0 : Nat) (v : Option Value) (h : Heap) (L : List Loc) : Prop := v = none ∧ Fr n0 L ∧ Keep h0 h [t] ∧ own_Av Z h t k (.object "java/lang/String") N (fun q => if q = i then (.ref sa) else f q)
set_option maxRecDepth 65536 in
set_option maxHeartbeats 40000000 in
theorem own_set (l : Launch) (Z : State) (a0 : Array Value) (hw : ∀ d ∈ tables_1, d.before a0 Z = true) (ws : List Jvm.Cond) (a : Addr) (ev : Int32) (pr : Int32) (sa : Addr) (t : Addr) (pc : Int32) (k : ClassId) (N : Nat) (f : Nat → Value) (i : Nat) (h0 : Heap) (n0 : Nat) (Z0 : n0 ≤ h0.size) (Fp : Fld Z h0 a "com/example/funnelwright/funnelwright/UserEvents" "properties" "[Ljava/lang/String;" (.ref t)) (Fc : Fld Z h0 a "com/example/funnelwright/funnelwright/UserEvents" "propertyCount" "I" (.int pc)) (V_t : own_Av Z h0 t k (.object "java/lang/String") N f) (Ov : Ovr Z k "java/lang/String") (Es : Exa Z h0 sa "java/lang/String") (nat : a ≠ t) (gt : n0 ≤ t) (hj : ((ev * pc) + pr).toInt = i) (hi : i < N) :
    MetFree l (⟨"com/example/funnelwright/funnelwright/UserEvents", "setProperty", "(IILjava/lang/String;)V"⟩ : MethodName) (head1 (Jvm.Cond.code (⟨"com/example/funnelwright/funnelwright/UserEvents", "setProperty", "(IILjava/lang/String;)V"⟩ : MethodName) prog_22_method_9_code 4 none :: ws) ({ frames := 0, cells := 0, slots := 0, locals := 0 } : Room)) (fun aa U0 => aa = #[(.ref a), (.int ev), (.int pr), (.ref sa)] ∧ Z.Warmed39 U0.vm ∧ U0.heap = h0) (fun _ _ _ _ _ => True) (fun _ U0 o0 U1 => ∃ v0 L0, o0 = .returned v0 ∧ own_set_Q Z a ev pr sa t pc k N f i h0 n0 v0 U1.heap L0 ∧ FrameEnd U0 o0 U1 L0 ({ frames := 0, cells := 0, slots := 0, locals := 0 } : Room).cells ({ frames := 0, cells := 0, slots := 0, locals := 0 } : Room).slots) := by
  refine MetFree.of_bodySF (plainFor_of_name own_pn0) hisR ?_
  intro p e s m args below meth c s₁ Bd hml0 hP hK
  obtain ⟨rfl, hZ, hh⟩ := hP
  have hx := Bd.exec
  have hby := Bd.bytes
  have hml : c.maxLocals = 4 := hml0
  have hown : s.vm.findClass "com/example/funnelwright/funnelwright/UserEvents" = some m.cls := findClass_of_methodNamed Bd.named
  have hnm := (name_of_methodNamed Bd.named Bd.method).1
  have X0 : Stand p l e ({ frames := 0, cells := 0, slots := 0, locals := 0 } : Room) s m #[(.ref a), (.int ev), (.int pr), (.ref sa)] below meth c s₁ [] 0 0 := Stand.of_body Bd
  have e0 : s₁.heap = h0 := by rw [← hh, Bd.state]; rfl
  have N0 := Fr.nil n0
  show own_Go p e below s (own_set_Q Z a ev pr sa t pc k N f i h0 n0) 0 0 s₁ (entryFrame m #[(.ref a), (.int ev), (.int pr), (.ref sa)] 4)
  rw [show entryFrame m #[(.ref a), (.int ev), (.int pr), (.ref sa)] 4 = mkF m 0 #[.val (.ref a), .val (.int ev), .val (.int pr), .val (.ref sa)] [] from by first | (simp [entryFrame, mkF, argsToLocals, Value.category]; done) | rfl]
  have Kp := Keep.refl h0 [t]
  refine own_st (T' := s₁) (g' := (mkF m 1 #[.val (.ref a), .val (.int ev), .val (.int pr), .val (.ref sa)] [(.ref a)])) (fun _ k => XS.aloadN X0.here hx rfl (hb hby d9_0) rfl rfl k) ?_
  obtain ⟨T22, X22, e22, st22⟩ := getF X0 hx hZ hown (host := "") (Or.inl (hw _ (List.mem_of_getElem? (i := 49) rfl))) Via.refl e0 Fp (g := (mkF m 1 #[.val (.ref a), .val (.int ev), .val (.int pr), .val (.ref sa)] [(.ref a)])) rfl rfl (hb hby d9_1)
  refine own_st (T' := T22) (g' := (mkF m 4 #[.val (.ref a), .val (.int ev), .val (.int pr), .val (.ref sa)] [(.ref t)])) st22 ?_
  refine own_st (T' := T22) (g' := (mkF m 5 #[.val (.ref a), .val (.int ev), .val (.int pr), .val (.ref sa)] [(.int ev), (.ref t)])) (fun _ k => XS.iloadN X22.here hx rfl (hb hby d9_4) rfl k) ?_
  refine own_st (T' := T22) (g' := (mkF m 6 #[.val (.ref a), .val (.int ev), .val (.int pr), .val (.ref sa)] [(.ref a), (.int ev), (.ref t)])) (fun _ k => XS.aloadN X22.here hx rfl (hb hby d9_5) rfl rfl k) ?_
  obtain ⟨T23, X23, e23, st23⟩ := getF X22 hx hZ hown (host := "") (Or.inl (hw _ (List.mem_of_getElem? (i := 45) rfl))) Via.refl e22 Fc (g := (mkF m 6 #[.val (.ref a), .val (.int ev), .val (.int pr), .val (.ref sa)] [(.ref a), (.int ev), (.ref t)])) rfl rfl (hb hby d9_6)
  refine own_st (T' := T23) (g' := (mkF m 9 #[.val (.ref a), .val (.int ev), .val (.int pr), .val (.ref sa)] [(.int pc), (.int ev), (.ref t)])) st23 ?_
  refine own_st (T' := T23) (g' := (mkF m 10 #[.val (.ref a), .val (.int ev), .val (.int pr), .val (.ref sa)] [(.int (ev * pc)), (.ref t)])) (fun _ k => XS.imul X23.here hx rfl (hb hby d9_9) rfl k) ?_
  refine own_st (T' := T23) (g' := (mkF m 11 #[.val (.ref a), .val (.int ev), .val (.int pr), .val (.ref sa)] [(.int pr), (.int (ev * pc)), (.ref t)])) (fun _ k => XS.iloadN X23.here hx rfl (hb hby d9_10) rfl k) ?_
  refine own_st (T' := T23) (g' := (mkF m 12 #[.val (.ref a), .val (.int ev), .val (.int pr), .val (.ref sa)] [(.int ((ev * pc) + pr)), (.ref t)])) (fun _ k => XS.iadd X23.here hx rfl (hb hby d9_11) rfl k) ?_
  refine own_st (T' := T23) (g' := (mkF m 13 #[.val (.ref a), .val (.int ev), .val (.int pr), .val (.ref sa)] [(.ref sa), (.int ((ev * pc) + pr)), (.ref t)])) (fun _ k => XS.aloadN X23.here hx rfl (hb hby d9_12) rfl rfl k) ?_
  obtain ⟨T24, h24, X24, e24, W24, V24, st24⟩ := own_stR X23 hx hZ e23 V_t Ov (Or.inr ⟨_, rfl, Ins.self Es⟩) (i := i) hj hi (g := (mkF m 13 #[.val (.ref a), .val (.int ev), .val (.int pr), .val (.ref sa)] [(.ref sa), (.int ((ev * pc) + pr)), (.ref t)])) rfl rfl (hb hby d9_13)
  have Fp := Fp.other W24 (Or.inl nat)
  have Fc := Fc.other W24 (Or.inl nat)
  have Es := Es.wr W24
  have Z0' := Nat.le_trans Z0 (Keep.of_wr W24).1
  have Kp := Kp.wr W24 (Or.inl (List.mem_of_getElem? (i := 0) rfl))
  have N0' := Fr.snoc X24 N0 gt
  have V_t := V24
  refine own_st (T' := T24) (g' := (mkF m 14 #[.val (.ref a), .val (.int ev), .val (.int pr), .val (.ref sa)] [])) st24 ?_
  exact own_ret0 X24 hx Bd.returns Bd.notSynchronized e24 (hb hby d9_14) ⟨rfl, N0', Kp, V_t⟩ (by decide) (by decide)
theorem d10_0 : decode prog_22_method_6_code 0 = .ok (.aload_n 0, 1) := by decide +kernel
theorem d10_1 : decode prog_22_method_6_code 1 = .ok (.getfield 27, 3) := by decide +kernel
theorem d10_4 : decode prog_22_method_6_code 4 = .ok (.iload_n 1, 1) := by decide +kernel
theorem d10_5 : decode prog_22_method_6_code 5 = .ok (.aload_n 0, 1) := by decide +kernel
theorem d10_6 : decode prog_22_method_6_code 6 = .ok (.getfield 21, 3) := by decide +kernel
theorem d10_9 : decode prog_22_method_6_code 9 = .ok (.imul, 1) := by decide +kernel
theorem d10_10 : decode prog_22_method_6_code 10 = .ok (.iload_n 2, 1) := by decide +kernel
theorem d10_11 : decode prog_22_method_6_code 11 = .ok (.iadd, 1) := by decide +kernel
theorem d10_12 : decode prog_22_method_6_code 12 = .ok (.aaload, 1) := by decide +kernel
theorem d10_13 : decode prog_22_method_6_code 13 = .ok (.areturn, 1) := by decide +kernel
def own_prop_Q (Z : State) (a : Addr) (ev : Int32) (pr : Int32) (t : Addr) (pc : Int32) (k : ClassId) (N : Nat) (f : Nat → Value) (i : Nat) (r : Value) (h0 : Heap) (n0 : Nat) (v : Option Value) (h : Heap) (L : List Loc) : Prop := v = some r ∧ Fr n0 L ∧ h = h0
set_option maxRecDepth 65536 in
set_option maxHeartbeats 40000000 in
theorem own_prop (l : Launch) (Z : State) (a0 : Array Value) (hw : ∀ d ∈ tables_1, d.before a0 Z = true) (ws : List Jvm.Cond) (a : Addr) (ev : Int32) (pr : Int32) (t : Addr) (pc : Int32) (k : ClassId) (N : Nat) (f : Nat → Value) (i : Nat) (r : Value) (h0 : Heap) (n0 : Nat) (Z0 : n0 ≤ h0.size) (Fp : Fld Z h0 a "com/example/funnelwright/funnelwright/UserEvents" "properties" "[Ljava/lang/String;" (.ref t)) (Fc : Fld Z h0 a "com/example/funnelwright/funnelwright/UserEvents" "propertyCount" "I" (.int pc)) (V_t : own_Av Z h0 t k (.object "java/lang/String") N f) (hj : ((ev * pc) + pr).toInt = i) (hi : i < N) (hv : f i = r) (hr : r.isRef = true) :
    MetFree l (⟨"com/example/funnelwright/funnelwright/UserEvents", "property", "(II)Ljava/lang/String;"⟩ : MethodName) (head1 (Jvm.Cond.code (⟨"com/example/funnelwright/funnelwright/UserEvents", "property", "(II)Ljava/lang/String;"⟩ : MethodName) prog_22_method_6_code 3 (some (.object "java/lang/String")) :: ws) ({ frames := 0, cells := 0, slots := 0, locals := 0 } : Room)) (fun aa U0 => aa = #[(.ref a), (.int ev), (.int pr)] ∧ Z.Warmed39 U0.vm ∧ U0.heap = h0) (fun _ _ _ _ _ => True) (fun _ U0 o0 U1 => ∃ v0 L0, o0 = .returned v0 ∧ own_prop_Q Z a ev pr t pc k N f i r h0 n0 v0 U1.heap L0 ∧ FrameEnd U0 o0 U1 L0 ({ frames := 0, cells := 0, slots := 0, locals := 0 } : Room).cells ({ frames := 0, cells := 0, slots := 0, locals := 0 } : Room).slots) := by
  refine MetFree.of_bodySF (plainFor_of_name own_pn0) hisR ?_
  intro p e s m args below meth c s₁ Bd hml0 hP hK
  obtain ⟨rfl, hZ, hh⟩ := hP
  have hx := Bd.exec
  have hby := Bd.bytes
  have hml : c.maxLocals = 3 := hml0
  have hown : s.vm.findClass "com/example/funnelwright/funnelwright/UserEvents" = some m.cls := findClass_of_methodNamed Bd.named
  have hnm := (name_of_methodNamed Bd.named Bd.method).1
  have X0 : Stand p l e ({ frames := 0, cells := 0, slots := 0, locals := 0 } : Room) s m #[(.ref a), (.int ev), (.int pr)] below meth c s₁ [] 0 0 := Stand.of_body Bd
  have e0 : s₁.heap = h0 := by rw [← hh, Bd.state]; rfl
  have N0 := Fr.nil n0
  show own_Go p e below s (own_prop_Q Z a ev pr t pc k N f i r h0 n0) 0 0 s₁ (entryFrame m #[(.ref a), (.int ev), (.int pr)] 3)
  rw [show entryFrame m #[(.ref a), (.int ev), (.int pr)] 3 = mkF m 0 #[.val (.ref a), .val (.int ev), .val (.int pr)] [] from by first | (simp [entryFrame, mkF, argsToLocals, Value.category]; done) | rfl]
  refine own_st (T' := s₁) (g' := (mkF m 1 #[.val (.ref a), .val (.int ev), .val (.int pr)] [(.ref a)])) (fun _ k => XS.aloadN X0.here hx rfl (hb hby d10_0) rfl rfl k) ?_
  obtain ⟨T25, X25, e25, st25⟩ := getF X0 hx hZ hown (host := "") (Or.inl (hw _ (List.mem_of_getElem? (i := 49) rfl))) Via.refl e0 Fp (g := (mkF m 1 #[.val (.ref a), .val (.int ev), .val (.int pr)] [(.ref a)])) rfl rfl (hb hby d10_1)
  refine own_st (T' := T25) (g' := (mkF m 4 #[.val (.ref a), .val (.int ev), .val (.int pr)] [(.ref t)])) st25 ?_
  refine own_st (T' := T25) (g' := (mkF m 5 #[.val (.ref a), .val (.int ev), .val (.int pr)] [(.int ev), (.ref t)])) (fun _ k => XS.iloadN X25.here hx rfl (hb hby d10_4) rfl k) ?_
  refine own_st (T' := T25) (g' := (mkF m 6 #[.val (.ref a), .val (.int ev), .val (.int pr)] [(.ref a), (.int ev), (.ref t)])) (fun _ k => XS.aloadN X25.here hx rfl (hb hby d10_5) rfl rfl k) ?_
  obtain ⟨T26, X26, e26, st26⟩ := getF X25 hx hZ hown (host := "") (Or.inl (hw _ (List.mem_of_getElem? (i := 45) rfl))) Via.refl e25 Fc (g := (mkF m 6 #[.val (.ref a), .val (.int ev), .val (.int pr)] [(.ref a), (.int ev), (.ref t)])) rfl rfl (hb hby d10_6)
  refine own_st (T' := T26) (g' := (mkF m 9 #[.val (.ref a), .val (.int ev), .val (.int pr)] [(.int pc), (.int ev), (.ref t)])) st26 ?_
  refine own_st (T' := T26) (g' := (mkF m 10 #[.val (.ref a), .val (.int ev), .val (.int pr)] [(.int (ev * pc)), (.ref t)])) (fun _ k => XS.imul X26.here hx rfl (hb hby d10_9) rfl k) ?_
  refine own_st (T' := T26) (g' := (mkF m 11 #[.val (.ref a), .val (.int ev), .val (.int pr)] [(.int pr), (.int (ev * pc)), (.ref t)])) (fun _ k => XS.iloadN X26.here hx rfl (hb hby d10_10) rfl k) ?_
  refine own_st (T' := T26) (g' := (mkF m 12 #[.val (.ref a), .val (.int ev), .val (.int pr)] [(.int ((ev * pc) + pr)), (.ref t)])) (fun _ k => XS.iadd X26.here hx rfl (hb hby d10_11) rfl k) ?_
  refine own_st (T' := T26) (g' := (mkF m 13 #[.val (.ref a), .val (.int ev), .val (.int pr)] [r])) (own_ldR X26 hx hZ e26 V_t rfl (i := i) hj hi (v := r) hv (g := (mkF m 12 #[.val (.ref a), .val (.int ev), .val (.int pr)] [(.int ((ev * pc) + pr)), (.ref t)])) rfl rfl (hb hby d10_12)) ?_
  exact own_retR X26 hx Bd.returns Bd.notSynchronized e26 rfl hr (hb hby d10_13) ⟨rfl, N0, rfl⟩ (by decide) (by decide)
theorem own_pd0 : parseMethodDescriptor "([C)V" = some ⟨[(.array .char)], none⟩ := by decide +kernel
theorem own_pd1 : parseMethodDescriptor "(I)V" = some ⟨[.int], none⟩ := by decide +kernel
theorem own_pd2 : parseMethodDescriptor "(JI)I" = some ⟨[.long, .int], some .int⟩ := by decide +kernel
theorem own_pd3 : parseMethodDescriptor "(IILjava/lang/String;)V" = some ⟨[.int, .int, (.object "java/lang/String")], none⟩ := by decide +kernel
theorem own_pd4 : parseMethodDescriptor "(II)Ljava/lang/String;" = some ⟨[.int, .int], some (.object "java/lang/String")⟩ := by decide +kernel
theorem own_pn1 : plainName "com/example/funnelwright/funnelwright/UserEventsPropertyPinLaw" = true := by first | (simp [plainName, overriddenIn]; done) | decide +kernel
def own_law_Q (Z : State) (p0 : Int32) (p1 : Int32) (p2 : Int32) (p3 : Int32) (p4 : Int32) (p5 : Int32) (cs : Int32) (h0 : Heap) (n0 : Nat) (v : Option Value) (h : Heap) (L : List Loc) : Prop := v = some (.int 1) ∧ Fr n0 L
set_option maxRecDepth 65536 in
set_option maxHeartbeats 40000000 in
theorem own_law (l : Launch) (Z : State) (a0 : Array Value) (hw : ∀ d ∈ tables_1, d.before a0 Z = true) (ws : List Jvm.Cond) (p0 : Int32) (p1 : Int32) (p2 : Int32) (p3 : Int32) (p4 : Int32) (p5 : Int32) (cs : Int32) (h0 : Heap) (n0 : Nat) (Z0 : n0 ≤ h0.size) (O : Old Z n0 h0) (SC0 : Sta Z Z.heap "java/lang/String" "COMPACT_STRINGS" "Z" (.int cs)) (hcs : ¬ cs = (0 : Int32)) :
    MetFree l x (head1 (Jvm.Cond.code x code maxLocals ret :: ws) room_1) (fun aa U0 => aa = #[(.int p0), (.int p1), (.int p2), (.int p3), (.int p4), (.int p5)] ∧ Z.Warmed39 U0.vm ∧ U0.heap = h0) (fun _ _ _ _ _ => True) (fun _ U0 o0 U1 => ∃ v0 L0, o0 = .returned v0 ∧ own_law_Q Z p0 p1 p2 p3 p4 p5 cs h0 n0 v0 U1.heap L0 ∧ FrameEnd U0 o0 U1 L0 32 320) := by
  refine MetFree.of_bodySF (plainFor_of_name own_pn1) hisR ?_
  intro p e s m args below meth c s₁ Bd hml0 hP hK
  obtain ⟨rfl, hZ, hh⟩ := hP
  have hx := Bd.exec
  have hby := Bd.bytes
  have hml : c.maxLocals = 24 := hml0
  have hown : s.vm.findClass "com/example/funnelwright/funnelwright/UserEventsPropertyPinLaw" = some m.cls := findClass_of_methodNamed Bd.named
  have hnm := (name_of_methodNamed Bd.named Bd.method).1
  have X0 : Stand p l e room_1 s m #[(.int p0), (.int p1), (.int p2), (.int p3), (.int p4), (.int p5)] below meth c s₁ [] 0 0 := Stand.of_body Bd
  have e0 : s₁.heap = h0 := by rw [← hh, Bd.state]; rfl
  have N0 := Fr.nil n0
  show own_Go p e below s (own_law_Q Z p0 p1 p2 p3 p4 p5 cs h0 n0) 32 320 s₁ (entryFrame m #[(.int p0), (.int p1), (.int p2), (.int p3), (.int p4), (.int p5)] maxLocals)
  rw [show entryFrame m #[(.int p0), (.int p1), (.int p2), (.int p3), (.int p4), (.int p5)] maxLocals = mkF m 0 #[.val (.int p0), .val (.int p1), .val (.int p2), .val (.int p3), .val (.int p4), .val (.int p5), .unset, .unset, .unset, .unset, .unset, .unset, .unset, .unset, .unset, .unset, .unset, .unset, .unset, .unset, .unset, .unset, .unset, .unset] [] from by first | (simp [entryFrame, mkF, argsToLocals, Value.category, maxLocals]; done) | rfl]
  have hws : ∀ d ∈ StrChars.Road.words, d.before a0 Z = true := fun d hd => hw d ((by decide +kernel : ∀ d ∈ StrChars.Road.words, d ∈ tables_1) d hd)
  refine own_st (T' := s₁) (g' := (mkF m 1 #[.val (.int p0), .val (.int p1), .val (.int p2), .val (.int p3), .val (.int p4), .val (.int p5), .unset, .unset, .unset, .unset, .unset, .unset, .unset, .unset, .unset, .unset, .unset, .unset, .unset, .unset, .unset, .unset, .unset, .unset] [(.int (1 : Int32))])) (fun _ k => XS.iconst X0.here hx rfl (hb hby at_0) k) ?_
  refine own_st (T' := s₁) (g' := (mkF m 2 #[.val (.int p0), .val (.int p1), .val (.int p2), .val (.int p3), .val (.int p4), .val (.int p5), .unset, .unset, .unset, .unset, .unset, .unset, .unset, .unset, .unset, .unset, .unset, .unset, .unset, .unset, .unset, .unset, .unset, .unset] [(.int p0), (.int (1 : Int32))])) (fun _ k => XS.iloadN X0.here hx rfl (hb hby at_1) rfl k) ?_
  refine own_st (T' := s₁) (g' := (mkF m 3 #[.val (.int p0), .val (.int p1), .val (.int p2), .val (.int p3), .val (.int p4), .val (.int p5), .unset, .unset, .unset, .unset, .unset, .unset, .unset, .unset, .unset, .unset, .unset, .unset, .unset, .unset, .unset, .unset, .unset, .unset] [(.int (3 : Int32)), (.int p0), (.int (1 : Int32))])) (fun _ k => XS.iconst X0.here hx rfl (hb hby at_2) k) ?_
  refine own_st (T' := s₁) (g' := (mkF m 4 #[.val (.int p0), .val (.int p1), .val (.int p2), .val (.int p3), .val (.int p4), .val (.int p5), .unset, .unset, .unset, .unset, .unset, .unset, .unset, .unset, .unset, .unset, .unset, .unset, .unset, .unset, .unset, .unset, .unset, .unset] [(.int (p0 &&& (3 : Int32))), (.int (1 : Int32))])) (fun _ k => XS.iand X0.here hx rfl (hb hby at_3) rfl k) ?_
  refine own_st (T' := s₁) (g' := (mkF m 5 #[.val (.int p0), .val (.int p1), .val (.int p2), .val (.int p3), .val (.int p4), .val (.int p5), .unset, .unset, .unset, .unset, .unset, .unset, .unset, .unset, .unset, .unset, .unset, .unset, .unset, .unset, .unset, .unset, .unset, .unset] [(.int ((1 : Int32) + (p0 &&& (3 : Int32))))])) (fun _ k => XS.iadd X0.here hx rfl (hb hby at_4) rfl k) ?_
  refine own_st (T' := s₁) (g' := (mkF m 7 #[.val (.int p0), .val (.int p1), .val (.int p2), .val (.int p3), .val (.int p4), .val (.int p5), .val (.int ((1 : Int32) + (p0 &&& (3 : Int32)))), .unset, .unset, .unset, .unset, .unset, .unset, .unset, .unset, .unset, .unset, .unset, .unset, .unset, .unset, .unset, .unset, .unset] [])) (fun _ k => XS.istore X0.here hx rfl (hb hby at_5) rfl (l' := #[.val (.int p0), .val (.int p1), .val (.int p2), .val (.int p3), .val (.int p4), .val (.int p5), .val (.int ((1 : Int32) + (p0 &&& (3 : Int32)))), .unset, .unset, .unset, .unset, .unset, .unset, .unset, .unset, .unset, .unset, .unset, .unset, .unset, .unset, .unset, .unset, .unset]) rfl k) ?_
  have J7 : ∀ (pc : Int32) (hpc : 1 ≤ pc.toInt ∧ pc.toInt ≤ 4), own_Go p e below s (own_law_Q Z p0 p1 p2 p3 p4 p5 cs h0 n0) 32 320 s₁ (mkF m 7 #[.val (.int p0), .val (.int p1), .val (.int p2), .val (.int p3), .val (.int p4), .val (.int p5), .val (.int pc), .unset, .unset, .unset, .unset, .unset, .unset, .unset, .unset, .unset, .unset, .unset, .unset, .unset, .unset, .unset, .unset, .unset] []) := by
    intro pc hpc
    have hpz : ¬ pc = (0 : Int32) := fun q => by rw [q] at hpc; have : (0 : Int32).toInt = 0 := rfl; omega
    refine own_st (T' := s₁) (g' := (mkF m 8 #[.val (.int p0), .val (.int p1), .val (.int p2), .val (.int p3), .val (.int p4), .val (.int p5), .val (.int pc), .unset, .unset, .unset, .unset, .unset, .unset, .unset, .unset, .unset, .unset, .unset, .unset, .unset, .unset, .unset, .unset, .unset] [(.int p1)])) (fun _ k => XS.iloadN X0.here hx rfl (hb hby at_7) rfl k) ?_
    refine own_st (T' := s₁) (g' := (mkF m 9 #[.val (.int p0), .val (.int p1), .val (.int p2), .val (.int p3), .val (.int p4), .val (.int p5), .val (.int pc), .unset, .unset, .unset, .unset, .unset, .unset, .unset, .unset, .unset, .unset, .unset, .unset, .unset, .unset, .unset, .unset, .unset] [(.int (1 : Int32)), (.int p1)])) (fun _ k => XS.iconst X0.here hx rfl (hb hby at_8) k) ?_
    refine own_st (T' := s₁) (g' := (mkF m 10 #[.val (.int p0), .val (.int p1), .val (.int p2), .val (.int p3), .val (.int p4), .val (.int p5), .val (.int pc), .unset, .unset, .unset, .unset, .unset, .unset, .unset, .unset, .unset, .unset, .unset, .unset, .unset, .unset, .unset, .unset, .unset] [(.int (p1 &&& (1 : Int32)))])) (fun _ k => XS.iand X0.here hx rfl (hb hby at_9) rfl k) ?_
    refine own_st (T' := s₁) (g' := (mkF m 12 #[.val (.int p0), .val (.int p1), .val (.int p2), .val (.int p3), .val (.int p4), .val (.int p5), .val (.int pc), .val (.int (p1 &&& (1 : Int32))), .unset, .unset, .unset, .unset, .unset, .unset, .unset, .unset, .unset, .unset, .unset, .unset, .unset, .unset, .unset, .unset] [])) (fun _ k => XS.istore X0.here hx rfl (hb hby at_10) rfl (l' := #[.val (.int p0), .val (.int p1), .val (.int p2), .val (.int p3), .val (.int p4), .val (.int p5), .val (.int pc), .val (.int (p1 &&& (1 : Int32))), .unset, .unset, .unset, .unset, .unset, .unset, .unset, .unset, .unset, .unset, .unset, .unset, .unset, .unset, .unset, .unset]) rfl k) ?_
    refine own_st (T' := s₁) (g' := (mkF m 13 #[.val (.int p0), .val (.int p1), .val (.int p2), .val (.int p3), .val (.int p4), .val (.int p5), .val (.int pc), .val (.int (p1 &&& (1 : Int32))), .unset, .unset, .unset, .unset, .unset, .unset, .unset, .unset, .unset, .unset, .unset, .unset, .unset, .unset, .unset, .unset] [(.int p1)])) (fun _ k => XS.iloadN X0.here hx rfl (hb hby at_12) rfl k) ?_
    refine own_st (T' := s₁) (g' := (mkF m 14 #[.val (.int p0), .val (.int p1), .val (.int p2), .val (.int p3), .val (.int p4), .val (.int p5), .val (.int pc), .val (.int (p1 &&& (1 : Int32))), .unset, .unset, .unset, .unset, .unset, .unset, .unset, .unset, .unset, .unset, .unset, .unset, .unset, .unset, .unset, .unset] [(.int (1 : Int32)), (.int p1)])) (fun _ k => XS.iconst X0.here hx rfl (hb hby at_13) k) ?_
    refine own_st (T' := s₁) (g' := (mkF m 15 #[.val (.int p0), .val (.int p1), .val (.int p2), .val (.int p3), .val (.int p4), .val (.int p5), .val (.int pc), .val (.int (p1 &&& (1 : Int32))), .unset, .unset, .unset, .unset, .unset, .unset, .unset, .unset, .unset, .unset, .unset, .unset, .unset, .unset, .unset, .unset] [(.int ((p1.toUInt32 >>> ((1 : Int32) &&& 31).toUInt32).toInt32))])) (fun _ k => XS.iushr X0.here hx rfl (hb hby at_14) rfl k) ?_
    refine own_st (T' := s₁) (g' := (mkF m 17 #[.val (.int p0), .val (.int p1), .val (.int p2), .val (.int p3), .val (.int p4), .val (.int p5), .val (.int pc), .val (.int (p1 &&& (1 : Int32))), .unset, .unset, .unset, .unset, .unset, .unset, .unset, .unset, .unset, .unset, .unset, .unset, .unset, .unset, .unset, .unset] [(.int pc), (.int ((p1.toUInt32 >>> ((1 : Int32) &&& 31).toUInt32).toInt32))])) (fun _ k => XS.iload X0.here hx rfl (hb hby at_15) rfl k) ?_
    refine own_st (T' := s₁) (g' := (mkF m 18 #[.val (.int p0), .val (.int p1), .val (.int p2), .val (.int p3), .val (.int p4), .val (.int p5), .val (.int pc), .val (.int (p1 &&& (1 : Int32))), .unset, .unset, .unset, .unset, .unset, .unset, .unset, .unset, .unset, .unset, .unset, .unset, .unset, .unset, .unset, .unset] [(.int (((p1.toUInt32 >>> ((1 : Int32) &&& 31).toUInt32).toInt32) % pc))])) (fun _ k => iremM X0 hx rfl (hb hby at_17) rfl hpz k) ?_
    refine own_st (T' := s₁) (g' := (mkF m 20 #[.val (.int p0), .val (.int p1), .val (.int p2), .val (.int p3), .val (.int p4), .val (.int p5), .val (.int pc), .val (.int (p1 &&& (1 : Int32))), .val (.int (((p1.toUInt32 >>> ((1 : Int32) &&& 31).toUInt32).toInt32) % pc)), .unset, .unset, .unset, .unset, .unset, .unset, .unset, .unset, .unset, .unset, .unset, .unset, .unset, .unset, .unset] [])) (fun _ k => XS.istore X0.here hx rfl (hb hby at_18) rfl (l' := #[.val (.int p0), .val (.int p1), .val (.int p2), .val (.int p3), .val (.int p4), .val (.int p5), .val (.int pc), .val (.int (p1 &&& (1 : Int32))), .val (.int (((p1.toUInt32 >>> ((1 : Int32) &&& 31).toUInt32).toInt32) % pc)), .unset, .unset, .unset, .unset, .unset, .unset, .unset, .unset, .unset, .unset, .unset, .unset, .unset, .unset, .unset]) rfl k) ?_
    refine own_st (T' := s₁) (g' := (mkF m 21 #[.val (.int p0), .val (.int p1), .val (.int p2), .val (.int p3), .val (.int p4), .val (.int p5), .val (.int pc), .val (.int (p1 &&& (1 : Int32))), .val (.int (((p1.toUInt32 >>> ((1 : Int32) &&& 31).toUInt32).toInt32) % pc)), .unset, .unset, .unset, .unset, .unset, .unset, .unset, .unset, .unset, .unset, .unset, .unset, .unset, .unset, .unset] [(.int p2)])) (fun _ k => XS.iloadN X0.here hx rfl (hb hby at_20) rfl k) ?_
    refine own_st (T' := s₁) (g' := (mkF m 22 #[.val (.int p0), .val (.int p1), .val (.int p2), .val (.int p3), .val (.int p4), .val (.int p5), .val (.int pc), .val (.int (p1 &&& (1 : Int32))), .val (.int (((p1.toUInt32 >>> ((1 : Int32) &&& 31).toUInt32).toInt32) % pc)), .unset, .unset, .unset, .unset, .unset, .unset, .unset, .unset, .unset, .unset, .unset, .unset, .unset, .unset, .unset] [(.int (1 : Int32)), (.int p2)])) (fun _ k => XS.iconst X0.here hx rfl (hb hby at_21) k) ?_
    refine own_st (T' := s₁) (g' := (mkF m 23 #[.val (.int p0), .val (.int p1), .val (.int p2), .val (.int p3), .val (.int p4), .val (.int p5), .val (.int pc), .val (.int (p1 &&& (1 : Int32))), .val (.int (((p1.toUInt32 >>> ((1 : Int32) &&& 31).toUInt32).toInt32) % pc)), .unset, .unset, .unset, .unset, .unset, .unset, .unset, .unset, .unset, .unset, .unset, .unset, .unset, .unset, .unset] [(.int (p2 &&& (1 : Int32)))])) (fun _ k => XS.iand X0.here hx rfl (hb hby at_22) rfl k) ?_
    refine own_st (T' := s₁) (g' := (mkF m 25 #[.val (.int p0), .val (.int p1), .val (.int p2), .val (.int p3), .val (.int p4), .val (.int p5), .val (.int pc), .val (.int (p1 &&& (1 : Int32))), .val (.int (((p1.toUInt32 >>> ((1 : Int32) &&& 31).toUInt32).toInt32) % pc)), .val (.int (p2 &&& (1 : Int32))), .unset, .unset, .unset, .unset, .unset, .unset, .unset, .unset, .unset, .unset, .unset, .unset, .unset, .unset] [])) (fun _ k => XS.istore X0.here hx rfl (hb hby at_23) rfl (l' := #[.val (.int p0), .val (.int p1), .val (.int p2), .val (.int p3), .val (.int p4), .val (.int p5), .val (.int pc), .val (.int (p1 &&& (1 : Int32))), .val (.int (((p1.toUInt32 >>> ((1 : Int32) &&& 31).toUInt32).toInt32) % pc)), .val (.int (p2 &&& (1 : Int32))), .unset, .unset, .unset, .unset, .unset, .unset, .unset, .unset, .unset, .unset, .unset, .unset, .unset, .unset]) rfl k) ?_
    refine own_st (T' := s₁) (g' := (mkF m 26 #[.val (.int p0), .val (.int p1), .val (.int p2), .val (.int p3), .val (.int p4), .val (.int p5), .val (.int pc), .val (.int (p1 &&& (1 : Int32))), .val (.int (((p1.toUInt32 >>> ((1 : Int32) &&& 31).toUInt32).toInt32) % pc)), .val (.int (p2 &&& (1 : Int32))), .unset, .unset, .unset, .unset, .unset, .unset, .unset, .unset, .unset, .unset, .unset, .unset, .unset, .unset] [(.int p2)])) (fun _ k => XS.iloadN X0.here hx rfl (hb hby at_25) rfl k) ?_
    refine own_st (T' := s₁) (g' := (mkF m 27 #[.val (.int p0), .val (.int p1), .val (.int p2), .val (.int p3), .val (.int p4), .val (.int p5), .val (.int pc), .val (.int (p1 &&& (1 : Int32))), .val (.int (((p1.toUInt32 >>> ((1 : Int32) &&& 31).toUInt32).toInt32) % pc)), .val (.int (p2 &&& (1 : Int32))), .unset, .unset, .unset, .unset, .unset, .unset, .unset, .unset, .unset, .unset, .unset, .unset, .unset, .unset] [(.int (1 : Int32)), (.int p2)])) (fun _ k => XS.iconst X0.here hx rfl (hb hby at_26) k) ?_
    refine own_st (T' := s₁) (g' := (mkF m 28 #[.val (.int p0), .val (.int p1), .val (.int p2), .val (.int p3), .val (.int p4), .val (.int p5), .val (.int pc), .val (.int (p1 &&& (1 : Int32))), .val (.int (((p1.toUInt32 >>> ((1 : Int32) &&& 31).toUInt32).toInt32) % pc)), .val (.int (p2 &&& (1 : Int32))), .unset, .unset, .unset, .unset, .unset, .unset, .unset, .unset, .unset, .unset, .unset, .unset, .unset, .unset] [(.int ((p2.toUInt32 >>> ((1 : Int32) &&& 31).toUInt32).toInt32))])) (fun _ k => XS.iushr X0.here hx rfl (hb hby at_27) rfl k) ?_
    refine own_st (T' := s₁) (g' := (mkF m 30 #[.val (.int p0), .val (.int p1), .val (.int p2), .val (.int p3), .val (.int p4), .val (.int p5), .val (.int pc), .val (.int (p1 &&& (1 : Int32))), .val (.int (((p1.toUInt32 >>> ((1 : Int32) &&& 31).toUInt32).toInt32) % pc)), .val (.int (p2 &&& (1 : Int32))), .unset, .unset, .unset, .unset, .unset, .unset, .unset, .unset, .unset, .unset, .unset, .unset, .unset, .unset] [(.int pc), (.int ((p2.toUInt32 >>> ((1 : Int32) &&& 31).toUInt32).toInt32))])) (fun _ k => XS.iload X0.here hx rfl (hb hby at_28) rfl k) ?_
    refine own_st (T' := s₁) (g' := (mkF m 31 #[.val (.int p0), .val (.int p1), .val (.int p2), .val (.int p3), .val (.int p4), .val (.int p5), .val (.int pc), .val (.int (p1 &&& (1 : Int32))), .val (.int (((p1.toUInt32 >>> ((1 : Int32) &&& 31).toUInt32).toInt32) % pc)), .val (.int (p2 &&& (1 : Int32))), .unset, .unset, .unset, .unset, .unset, .unset, .unset, .unset, .unset, .unset, .unset, .unset, .unset, .unset] [(.int (((p2.toUInt32 >>> ((1 : Int32) &&& 31).toUInt32).toInt32) % pc))])) (fun _ k => iremM X0 hx rfl (hb hby at_30) rfl hpz k) ?_
    refine own_st (T' := s₁) (g' := (mkF m 33 #[.val (.int p0), .val (.int p1), .val (.int p2), .val (.int p3), .val (.int p4), .val (.int p5), .val (.int pc), .val (.int (p1 &&& (1 : Int32))), .val (.int (((p1.toUInt32 >>> ((1 : Int32) &&& 31).toUInt32).toInt32) % pc)), .val (.int (p2 &&& (1 : Int32))), .val (.int (((p2.toUInt32 >>> ((1 : Int32) &&& 31).toUInt32).toInt32) % pc)), .unset, .unset, .unset, .unset, .unset, .unset, .unset, .unset, .unset, .unset, .unset, .unset, .unset] [])) (fun _ k => XS.istore X0.here hx rfl (hb hby at_31) rfl (l' := #[.val (.int p0), .val (.int p1), .val (.int p2), .val (.int p3), .val (.int p4), .val (.int p5), .val (.int pc), .val (.int (p1 &&& (1 : Int32))), .val (.int (((p1.toUInt32 >>> ((1 : Int32) &&& 31).toUInt32).toInt32) % pc)), .val (.int (p2 &&& (1 : Int32))), .val (.int (((p2.toUInt32 >>> ((1 : Int32) &&& 31).toUInt32).toInt32) % pc)), .unset, .unset, .unset, .unset, .unset, .unset, .unset, .unset, .unset, .unset, .unset, .unset, .unset]) rfl k) ?_
    refine own_st (T' := s₁) (g' := (mkF m 34 #[.val (.int p0), .val (.int p1), .val (.int p2), .val (.int p3), .val (.int p4), .val (.int p5), .val (.int pc), .val (.int (p1 &&& (1 : Int32))), .val (.int (((p1.toUInt32 >>> ((1 : Int32) &&& 31).toUInt32).toInt32) % pc)), .val (.int (p2 &&& (1 : Int32))), .val (.int (((p2.toUInt32 >>> ((1 : Int32) &&& 31).toUInt32).toInt32) % pc)), .unset, .unset, .unset, .unset, .unset, .unset, .unset, .unset, .unset, .unset, .unset, .unset, .unset] [(.int p3)])) (fun _ k => XS.iloadN X0.here hx rfl (hb hby at_33) rfl k) ?_
    refine own_st (T' := s₁) (g' := (mkF m 35 #[.val (.int p0), .val (.int p1), .val (.int p2), .val (.int p3), .val (.int p4), .val (.int p5), .val (.int pc), .val (.int (p1 &&& (1 : Int32))), .val (.int (((p1.toUInt32 >>> ((1 : Int32) &&& 31).toUInt32).toInt32) % pc)), .val (.int (p2 &&& (1 : Int32))), .val (.int (((p2.toUInt32 >>> ((1 : Int32) &&& 31).toUInt32).toInt32) % pc)), .unset, .unset, .unset, .unset, .unset, .unset, .unset, .unset, .unset, .unset, .unset, .unset, .unset] [(.int (1 : Int32)), (.int p3)])) (fun _ k => XS.iconst X0.here hx rfl (hb hby at_34) k) ?_
    refine own_st (T' := s₁) (g' := (mkF m 36 #[.val (.int p0), .val (.int p1), .val (.int p2), .val (.int p3), .val (.int p4), .val (.int p5), .val (.int pc), .val (.int (p1 &&& (1 : Int32))), .val (.int (((p1.toUInt32 >>> ((1 : Int32) &&& 31).toUInt32).toInt32) % pc)), .val (.int (p2 &&& (1 : Int32))), .val (.int (((p2.toUInt32 >>> ((1 : Int32) &&& 31).toUInt32).toInt32) % pc)), .unset, .unset, .unset, .unset, .unset, .unset, .unset, .unset, .unset, .unset, .unset, .unset, .unset] [(.int (p3 &&& (1 : Int32)))])) (fun _ k => XS.iand X0.here hx rfl (hb hby at_35) rfl k) ?_
    refine own_st (T' := s₁) (g' := (mkF m 38 #[.val (.int p0), .val (.int p1), .val (.int p2), .val (.int p3), .val (.int p4), .val (.int p5), .val (.int pc), .val (.int (p1 &&& (1 : Int32))), .val (.int (((p1.toUInt32 >>> ((1 : Int32) &&& 31).toUInt32).toInt32) % pc)), .val (.int (p2 &&& (1 : Int32))), .val (.int (((p2.toUInt32 >>> ((1 : Int32) &&& 31).toUInt32).toInt32) % pc)), .val (.int (p3 &&& (1 : Int32))), .unset, .unset, .unset, .unset, .unset, .unset, .unset, .unset, .unset, .unset, .unset, .unset] [])) (fun _ k => XS.istore X0.here hx rfl (hb hby at_36) rfl (l' := #[.val (.int p0), .val (.int p1), .val (.int p2), .val (.int p3), .val (.int p4), .val (.int p5), .val (.int pc), .val (.int (p1 &&& (1 : Int32))), .val (.int (((p1.toUInt32 >>> ((1 : Int32) &&& 31).toUInt32).toInt32) % pc)), .val (.int (p2 &&& (1 : Int32))), .val (.int (((p2.toUInt32 >>> ((1 : Int32) &&& 31).toUInt32).toInt32) % pc)), .val (.int (p3 &&& (1 : Int32))), .unset, .unset, .unset, .unset, .unset, .unset, .unset, .unset, .unset, .unset, .unset, .unset]) rfl k) ?_
    refine own_st (T' := s₁) (g' := (mkF m 39 #[.val (.int p0), .val (.int p1), .val (.int p2), .val (.int p3), .val (.int p4), .val (.int p5), .val (.int pc), .val (.int (p1 &&& (1 : Int32))), .val (.int (((p1.toUInt32 >>> ((1 : Int32) &&& 31).toUInt32).toInt32) % pc)), .val (.int (p2 &&& (1 : Int32))), .val (.int (((p2.toUInt32 >>> ((1 : Int32) &&& 31).toUInt32).toInt32) % pc)), .val (.int (p3 &&& (1 : Int32))), .unset, .unset, .unset, .unset, .unset, .unset, .unset, .unset, .unset, .unset, .unset, .unset] [(.int p3)])) (fun _ k => XS.iloadN X0.here hx rfl (hb hby at_38) rfl k) ?_
    refine own_st (T' := s₁) (g' := (mkF m 40 #[.val (.int p0), .val (.int p1), .val (.int p2), .val (.int p3), .val (.int p4), .val (.int p5), .val (.int pc), .val (.int (p1 &&& (1 : Int32))), .val (.int (((p1.toUInt32 >>> ((1 : Int32) &&& 31).toUInt32).toInt32) % pc)), .val (.int (p2 &&& (1 : Int32))), .val (.int (((p2.toUInt32 >>> ((1 : Int32) &&& 31).toUInt32).toInt32) % pc)), .val (.int (p3 &&& (1 : Int32))), .unset, .unset, .unset, .unset, .unset, .unset, .unset, .unset, .unset, .unset, .unset, .unset] [(.int (1 : Int32)), (.int p3)])) (fun _ k => XS.iconst X0.here hx rfl (hb hby at_39) k) ?_
    refine own_st (T' := s₁) (g' := (mkF m 41 #[.val (.int p0), .val (.int p1), .val (.int p2), .val (.int p3), .val (.int p4), .val (.int p5), .val (.int pc), .val (.int (p1 &&& (1 : Int32))), .val (.int (((p1.toUInt32 >>> ((1 : Int32) &&& 31).toUInt32).toInt32) % pc)), .val (.int (p2 &&& (1 : Int32))), .val (.int (((p2.toUInt32 >>> ((1 : Int32) &&& 31).toUInt32).toInt32) % pc)), .val (.int (p3 &&& (1 : Int32))), .unset, .unset, .unset, .unset, .unset, .unset, .unset, .unset, .unset, .unset, .unset, .unset] [(.int ((p3.toUInt32 >>> ((1 : Int32) &&& 31).toUInt32).toInt32))])) (fun _ k => XS.iushr X0.here hx rfl (hb hby at_40) rfl k) ?_
    refine own_st (T' := s₁) (g' := (mkF m 43 #[.val (.int p0), .val (.int p1), .val (.int p2), .val (.int p3), .val (.int p4), .val (.int p5), .val (.int pc), .val (.int (p1 &&& (1 : Int32))), .val (.int (((p1.toUInt32 >>> ((1 : Int32) &&& 31).toUInt32).toInt32) % pc)), .val (.int (p2 &&& (1 : Int32))), .val (.int (((p2.toUInt32 >>> ((1 : Int32) &&& 31).toUInt32).toInt32) % pc)), .val (.int (p3 &&& (1 : Int32))), .unset, .unset, .unset, .unset, .unset, .unset, .unset, .unset, .unset, .unset, .unset, .unset] [(.int pc), (.int ((p3.toUInt32 >>> ((1 : Int32) &&& 31).toUInt32).toInt32))])) (fun _ k => XS.iload X0.here hx rfl (hb hby at_41) rfl k) ?_
    refine own_st (T' := s₁) (g' := (mkF m 44 #[.val (.int p0), .val (.int p1), .val (.int p2), .val (.int p3), .val (.int p4), .val (.int p5), .val (.int pc), .val (.int (p1 &&& (1 : Int32))), .val (.int (((p1.toUInt32 >>> ((1 : Int32) &&& 31).toUInt32).toInt32) % pc)), .val (.int (p2 &&& (1 : Int32))), .val (.int (((p2.toUInt32 >>> ((1 : Int32) &&& 31).toUInt32).toInt32) % pc)), .val (.int (p3 &&& (1 : Int32))), .unset, .unset, .unset, .unset, .unset, .unset, .unset, .unset, .unset, .unset, .unset, .unset] [(.int (((p3.toUInt32 >>> ((1 : Int32) &&& 31).toUInt32).toInt32) % pc))])) (fun _ k => iremM X0 hx rfl (hb hby at_43) rfl hpz k) ?_
    refine own_st (T' := s₁) (g' := (mkF m 46 #[.val (.int p0), .val (.int p1), .val (.int p2), .val (.int p3), .val (.int p4), .val (.int p5), .val (.int pc), .val (.int (p1 &&& (1 : Int32))), .val (.int (((p1.toUInt32 >>> ((1 : Int32) &&& 31).toUInt32).toInt32) % pc)), .val (.int (p2 &&& (1 : Int32))), .val (.int (((p2.toUInt32 >>> ((1 : Int32) &&& 31).toUInt32).toInt32) % pc)), .val (.int (p3 &&& (1 : Int32))), .val (.int (((p3.toUInt32 >>> ((1 : Int32) &&& 31).toUInt32).toInt32) % pc)), .unset, .unset, .unset, .unset, .unset, .unset, .unset, .unset, .unset, .unset, .unset] [])) (fun _ k => XS.istore X0.here hx rfl (hb hby at_44) rfl (l' := #[.val (.int p0), .val (.int p1), .val (.int p2), .val (.int p3), .val (.int p4), .val (.int p5), .val (.int pc), .val (.int (p1 &&& (1 : Int32))), .val (.int (((p1.toUInt32 >>> ((1 : Int32) &&& 31).toUInt32).toInt32) % pc)), .val (.int (p2 &&& (1 : Int32))), .val (.int (((p2.toUInt32 >>> ((1 : Int32) &&& 31).toUInt32).toInt32) % pc)), .val (.int (p3 &&& (1 : Int32))), .val (.int (((p3.toUInt32 >>> ((1 : Int32) &&& 31).toUInt32).toInt32) % pc)), .unset, .unset, .unset, .unset, .unset, .unset, .unset, .unset, .unset, .unset, .unset]) rfl k) ?_
    have J46 : ∀ (ev1 : Int32) (pr1 : Int32) (ev2 : Int32) (pr2 : Int32) (ev3 : Int32) (pr3 : Int32) (he1 : 0 ≤ ev1.toInt ∧ ev1.toInt ≤ 15) (hr1 : 0 ≤ pr1.toInt ∧ pr1.toInt < pc.toInt) (he2 : 0 ≤ ev2.toInt ∧ ev2.toInt ≤ 15) (hr2 : 0 ≤ pr2.toInt ∧ pr2.toInt < pc.toInt) (he3 : 0 ≤ ev3.toInt ∧ ev3.toInt ≤ 15) (hr3 : 0 ≤ pr3.toInt ∧ pr3.toInt < pc.toInt), own_Go p e below s (own_law_Q Z p0 p1 p2 p3 p4 p5 cs h0 n0) 32 320 s₁ (mkF m 46 #[.val (.int p0), .val (.int p1), .val (.int p2), .val (.int p3), .val (.int p4), .val (.int p5), .val (.int pc), .val (.int ev1), .val (.int pr1), .val (.int ev2), .val (.int pr2), .val (.int ev3), .val (.int pr3), .unset, .unset, .unset, .unset, .unset, .unset, .unset, .unset, .unset, .unset, .unset] []) := by
      intro ev1 pr1 ev2 pr2 ev3 pr3 he1 hr1 he2 hr2 he3 hr3
      obtain ⟨i1, hi1, hj1, hl1⟩ := own_ix he1 hpc hr1
      obtain ⟨i2, hi2, hj2, hl2⟩ := own_ix he2 hpc hr2
      obtain ⟨i3, hi3, hj3, hl3⟩ := own_ix he3 hpc hr3
      have inj12 := own_inj hpc hr1 hr2 hi1 hi2
      have inj32 := own_inj hpc hr3 hr2 hi3 hi2
      have inj31 := own_inj hpc hr3 hr1 hi3 hi1
      obtain ⟨N, hNN⟩ : ∃ N : Nat, (N : Int) = 16 * pc.toInt := ⟨(16 * pc.toInt).toNat, by omega⟩
      have h16 : (16 : Int32).toInt = 16 := rfl
      have hN : ((16 : Int32) * pc).toInt = N := by rw [Jvm.Free.XT.mul32 ⟨by rw [h16]; omega, by rw [h16]; omega⟩, h16]; omega
      have hN64 : N ≤ 64 := by omega
      have l1 : i1 < N := by omega
      have l2 : i2 < N := by omega
      have l3 : i3 < N := by omega
      refine own_st (T' := s₁) (g' := (mkF m 47 #[.val (.int p0), .val (.int p1), .val (.int p2), .val (.int p3), .val (.int p4), .val (.int p5), .val (.int pc), .val (.int ev1), .val (.int pr1), .val (.int ev2), .val (.int pr2), .val (.int ev3), .val (.int pr3), .unset, .unset, .unset, .unset, .unset, .unset, .unset, .unset, .unset, .unset, .unset] [(.int (2 : Int32))])) (fun _ k => XS.iconst X0.here hx rfl (hb hby at_46) k) ?_
      obtain ⟨T27, h27, k27, X27, e27, E27, A27, st27⟩ := newP X0 hx hZ (hw _ (List.mem_of_getElem? (i := 0) rfl)) e0 (g := (mkF m 47 #[.val (.int p0), .val (.int p1), .val (.int p2), .val (.int p3), .val (.int p4), .val (.int p5), .val (.int pc), .val (.int ev1), .val (.int pr1), .val (.int ev2), .val (.int pr2), .val (.int ev3), .val (.int pr3), .unset, .unset, .unset, .unset, .unset, .unset, .unset, .unset, .unset, .unset, .unset] [(.int (2 : Int32))])) rfl (hb hby at_47) rfl (by decide) (cap := 2) (by decide) (by decide) (by decide) (by decide)
      obtain ⟨c1, gc1⟩ : ∃ z, z = h0.size := ⟨_, rfl⟩
      rw [← gc1] at A27 st27
      have ge_c1 : n0 ≤ c1 := own_ge Z0 gc1
      have O := O.ext E27
      have Z0' := Nat.le_trans Z0 E27.1
      have V_c1 := own_Av.new (n := 2) A27 rfl
      refine own_st (T' := T27) (g' := (mkF m 49 #[.val (.int p0), .val (.int p1), .val (.int p2), .val (.int p3), .val (.int p4), .val (.int p5), .val (.int pc), .val (.int ev1), .val (.int pr1), .val (.int ev2), .val (.int pr2), .val (.int ev3), .val (.int pr3), .unset, .unset, .unset, .unset, .unset, .unset, .unset, .unset, .unset, .unset, .unset] [(.ref c1)])) st27 ?_
      refine own_st (T' := T27) (g' := (mkF m 50 #[.val (.int p0), .val (.int p1), .val (.int p2), .val (.int p3), .val (.int p4), .val (.int p5), .val (.int pc), .val (.int ev1), .val (.int pr1), .val (.int ev2), .val (.int pr2), .val (.int ev3), .val (.int pr3), .unset, .unset, .unset, .unset, .unset, .unset, .unset, .unset, .unset, .unset, .unset] [(.ref c1), (.ref c1)])) (fun _ k => XS.dup X27.here hx rfl (hb hby at_49) rfl rfl k) ?_
      refine own_st (T' := T27) (g' := (mkF m 51 #[.val (.int p0), .val (.int p1), .val (.int p2), .val (.int p3), .val (.int p4), .val (.int p5), .val (.int pc), .val (.int ev1), .val (.int pr1), .val (.int ev2), .val (.int pr2), .val (.int ev3), .val (.int pr3), .unset, .unset, .unset, .unset, .unset, .unset, .unset, .unset, .unset, .unset, .unset] [(.int (0 : Int32)), (.ref c1), (.ref c1)])) (fun _ k => XS.iconst X27.here hx rfl (hb hby at_50) k) ?_
      refine own_st (T' := T27) (g' := (mkF m 53 #[.val (.int p0), .val (.int p1), .val (.int p2), .val (.int p3), .val (.int p4), .val (.int p5), .val (.int pc), .val (.int ev1), .val (.int pr1), .val (.int ev2), .val (.int pr2), .val (.int ev3), .val (.int pr3), .unset, .unset, .unset, .unset, .unset, .unset, .unset, .unset, .unset, .unset, .unset] [(.int p4), (.int (0 : Int32)), (.ref c1), (.ref c1)])) (fun _ k => XS.iload X27.here hx rfl (hb hby at_51) rfl k) ?_
      refine own_st (T' := T27) (g' := (mkF m 56 #[.val (.int p0), .val (.int p1), .val (.int p2), .val (.int p3), .val (.int p4), .val (.int p5), .val (.int pc), .val (.int ev1), .val (.int pr1), .val (.int ev2), .val (.int pr2), .val (.int ev3), .val (.int pr3), .unset, .unset, .unset, .unset, .unset, .unset, .unset, .unset, .unset, .unset, .unset] [(.int (255 : Int32)), (.int p4), (.int (0 : Int32)), (.ref c1), (.ref c1)])) (fun _ k => XS.sipush X27.here hx rfl (hb hby at_53) k) ?_
      refine own_st (T' := T27) (g' := (mkF m 57 #[.val (.int p0), .val (.int p1), .val (.int p2), .val (.int p3), .val (.int p4), .val (.int p5), .val (.int pc), .val (.int ev1), .val (.int pr1), .val (.int ev2), .val (.int pr2), .val (.int ev3), .val (.int pr3), .unset, .unset, .unset, .unset, .unset, .unset, .unset, .unset, .unset, .unset, .unset] [(.int (p4 &&& (255 : Int32))), (.int (0 : Int32)), (.ref c1), (.ref c1)])) (fun _ k => XS.iand X27.here hx rfl (hb hby at_56) rfl k) ?_
      refine own_st (T' := T27) (g' := (mkF m 58 #[.val (.int p0), .val (.int p1), .val (.int p2), .val (.int p3), .val (.int p4), .val (.int p5), .val (.int pc), .val (.int ev1), .val (.int pr1), .val (.int ev2), .val (.int pr2), .val (.int ev3), .val (.int pr3), .unset, .unset, .unset, .unset, .unset, .unset, .unset, .unset, .unset, .unset, .unset] [(.int ((p4 &&& (255 : Int32)).toUInt32.toUInt16.toUInt32.toInt32)), (.int (0 : Int32)), (.ref c1), (.ref c1)])) (fun _ k => XS.i2c X27.here hx rfl (hb hby at_57) rfl k) ?_
      obtain ⟨T28, h28, X28, e28, W28, V28, st28⟩ := own_stC X27 hx hZ e27 V_c1 (i := 0) (by decide) (by decide) (g := (mkF m 58 #[.val (.int p0), .val (.int p1), .val (.int p2), .val (.int p3), .val (.int p4), .val (.int p5), .val (.int pc), .val (.int ev1), .val (.int pr1), .val (.int ev2), .val (.int pr2), .val (.int ev3), .val (.int pr3), .unset, .unset, .unset, .unset, .unset, .unset, .unset, .unset, .unset, .unset, .unset] [(.int ((p4 &&& (255 : Int32)).toUInt32.toUInt16.toUInt32.toInt32)), (.int (0 : Int32)), (.ref c1), (.ref c1)])) rfl rfl (hb hby at_58)
      have O := O.wr W28 ge_c1
      have Z0'' := Nat.le_trans Z0' (Keep.of_wr W28).1
      have N0' := Fr.snoc X28 N0 ge_c1
      have V_c1 := V28
      refine own_st (T' := T28) (g' := (mkF m 59 #[.val (.int p0), .val (.int p1), .val (.int p2), .val (.int p3), .val (.int p4), .val (.int p5), .val (.int pc), .val (.int ev1), .val (.int pr1), .val (.int ev2), .val (.int pr2), .val (.int ev3), .val (.int pr3), .unset, .unset, .unset, .unset, .unset, .unset, .unset, .unset, .unset, .unset, .unset] [(.ref c1)])) st28 ?_
      refine own_st (T' := T28) (g' := (mkF m 60 #[.val (.int p0), .val (.int p1), .val (.int p2), .val (.int p3), .val (.int p4), .val (.int p5), .val (.int pc), .val (.int ev1), .val (.int pr1), .val (.int ev2), .val (.int pr2), .val (.int ev3), .val (.int pr3), .unset, .unset, .unset, .unset, .unset, .unset, .unset, .unset, .unset, .unset, .unset] [(.ref c1), (.ref c1)])) (fun _ k => XS.dup X28.here hx rfl (hb hby at_59) rfl rfl k) ?_
      refine own_st (T' := T28) (g' := (mkF m 61 #[.val (.int p0), .val (.int p1), .val (.int p2), .val (.int p3), .val (.int p4), .val (.int p5), .val (.int pc), .val (.int ev1), .val (.int pr1), .val (.int ev2), .val (.int pr2), .val (.int ev3), .val (.int pr3), .unset, .unset, .unset, .unset, .unset, .unset, .unset, .unset, .unset, .unset, .unset] [(.int (1 : Int32)), (.ref c1), (.ref c1)])) (fun _ k => XS.iconst X28.here hx rfl (hb hby at_60) k) ?_
      refine own_st (T' := T28) (g' := (mkF m 63 #[.val (.int p0), .val (.int p1), .val (.int p2), .val (.int p3), .val (.int p4), .val (.int p5), .val (.int pc), .val (.int ev1), .val (.int pr1), .val (.int ev2), .val (.int pr2), .val (.int ev3), .val (.int pr3), .unset, .unset, .unset, .unset, .unset, .unset, .unset, .unset, .unset, .unset, .unset] [(.int p4), (.int (1 : Int32)), (.ref c1), (.ref c1)])) (fun _ k => XS.iload X28.here hx rfl (hb hby at_61) rfl k) ?_
      refine own_st (T' := T28) (g' := (mkF m 65 #[.val (.int p0), .val (.int p1), .val (.int p2), .val (.int p3), .val (.int p4), .val (.int p5), .val (.int pc), .val (.int ev1), .val (.int pr1), .val (.int ev2), .val (.int pr2), .val (.int ev3), .val (.int pr3), .unset, .unset, .unset, .unset, .unset, .unset, .unset, .unset, .unset, .unset, .unset] [(.int (8 : Int32)), (.int p4), (.int (1 : Int32)), (.ref c1), (.ref c1)])) (fun _ k => XS.bipush X28.here hx rfl (hb hby at_63) k) ?_
      refine own_st (T' := T28) (g' := (mkF m 66 #[.val (.int p0), .val (.int p1), .val (.int p2), .val (.int p3), .val (.int p4), .val (.int p5), .val (.int pc), .val (.int ev1), .val (.int pr1), .val (.int ev2), .val (.int pr2), .val (.int ev3), .val (.int pr3), .unset, .unset, .unset, .unset, .unset, .unset, .unset, .unset, .unset, .unset, .unset] [(.int ((p4.toUInt32 >>> ((8 : Int32) &&& 31).toUInt32).toInt32)), (.int (1 : Int32)), (.ref c1), (.ref c1)])) (fun _ k => XS.iushr X28.here hx rfl (hb hby at_65) rfl k) ?_
      refine own_st (T' := T28) (g' := (mkF m 69 #[.val (.int p0), .val (.int p1), .val (.int p2), .val (.int p3), .val (.int p4), .val (.int p5), .val (.int pc), .val (.int ev1), .val (.int pr1), .val (.int ev2), .val (.int pr2), .val (.int ev3), .val (.int pr3), .unset, .unset, .unset, .unset, .unset, .unset, .unset, .unset, .unset, .unset, .unset] [(.int (255 : Int32)), (.int ((p4.toUInt32 >>> ((8 : Int32) &&& 31).toUInt32).toInt32)), (.int (1 : Int32)), (.ref c1), (.ref c1)])) (fun _ k => XS.sipush X28.here hx rfl (hb hby at_66) k) ?_
      refine own_st (T' := T28) (g' := (mkF m 70 #[.val (.int p0), .val (.int p1), .val (.int p2), .val (.int p3), .val (.int p4), .val (.int p5), .val (.int pc), .val (.int ev1), .val (.int pr1), .val (.int ev2), .val (.int pr2), .val (.int ev3), .val (.int pr3), .unset, .unset, .unset, .unset, .unset, .unset, .unset, .unset, .unset, .unset, .unset] [(.int (((p4.toUInt32 >>> ((8 : Int32) &&& 31).toUInt32).toInt32) &&& (255 : Int32))), (.int (1 : Int32)), (.ref c1), (.ref c1)])) (fun _ k => XS.iand X28.here hx rfl (hb hby at_69) rfl k) ?_
      refine own_st (T' := T28) (g' := (mkF m 71 #[.val (.int p0), .val (.int p1), .val (.int p2), .val (.int p3), .val (.int p4), .val (.int p5), .val (.int pc), .val (.int ev1), .val (.int pr1), .val (.int ev2), .val (.int pr2), .val (.int ev3), .val (.int pr3), .unset, .unset, .unset, .unset, .unset, .unset, .unset, .unset, .unset, .unset, .unset] [(.int ((((p4.toUInt32 >>> ((8 : Int32) &&& 31).toUInt32).toInt32) &&& (255 : Int32)).toUInt32.toUInt16.toUInt32.toInt32)), (.int (1 : Int32)), (.ref c1), (.ref c1)])) (fun _ k => XS.i2c X28.here hx rfl (hb hby at_70) rfl k) ?_
      obtain ⟨T29, h29, X29, e29, W29, V29, st29⟩ := own_stC X28 hx hZ e28 V_c1 (i := 1) (by decide) (by decide) (g := (mkF m 71 #[.val (.int p0), .val (.int p1), .val (.int p2), .val (.int p3), .val (.int p4), .val (.int p5), .val (.int pc), .val (.int ev1), .val (.int pr1), .val (.int ev2), .val (.int pr2), .val (.int ev3), .val (.int pr3), .unset, .unset, .unset, .unset, .unset, .unset, .unset, .unset, .unset, .unset, .unset] [(.int ((((p4.toUInt32 >>> ((8 : Int32) &&& 31).toUInt32).toInt32) &&& (255 : Int32)).toUInt32.toUInt16.toUInt32.toInt32)), (.int (1 : Int32)), (.ref c1), (.ref c1)])) rfl rfl (hb hby at_71)
      have O := O.wr W29 ge_c1
      have Z0''' := Nat.le_trans Z0'' (Keep.of_wr W29).1
      have N0'' := Fr.snoc X29 N0' ge_c1
      have V_c1 := V29
      refine own_st (T' := T29) (g' := (mkF m 72 #[.val (.int p0), .val (.int p1), .val (.int p2), .val (.int p3), .val (.int p4), .val (.int p5), .val (.int pc), .val (.int ev1), .val (.int pr1), .val (.int ev2), .val (.int pr2), .val (.int ev3), .val (.int pr3), .unset, .unset, .unset, .unset, .unset, .unset, .unset, .unset, .unset, .unset, .unset] [(.ref c1)])) st29 ?_
      refine own_st (T' := T29) (g' := (mkF m 74 #[.val (.int p0), .val (.int p1), .val (.int p2), .val (.int p3), .val (.int p4), .val (.int p5), .val (.int pc), .val (.int ev1), .val (.int pr1), .val (.int ev2), .val (.int pr2), .val (.int ev3), .val (.int pr3), .val (.ref c1), .unset, .unset, .unset, .unset, .unset, .unset, .unset, .unset, .unset, .unset] [])) (fun _ k => XS.astore X29.here hx rfl (hb hby at_72) rfl rfl (l' := #[.val (.int p0), .val (.int p1), .val (.int p2), .val (.int p3), .val (.int p4), .val (.int p5), .val (.int pc), .val (.int ev1), .val (.int pr1), .val (.int ev2), .val (.int pr2), .val (.int ev3), .val (.int pr3), .val (.ref c1), .unset, .unset, .unset, .unset, .unset, .unset, .unset, .unset, .unset, .unset]) rfl k) ?_
      refine own_st (T' := T29) (g' := (mkF m 75 #[.val (.int p0), .val (.int p1), .val (.int p2), .val (.int p3), .val (.int p4), .val (.int p5), .val (.int pc), .val (.int ev1), .val (.int pr1), .val (.int ev2), .val (.int pr2), .val (.int ev3), .val (.int pr3), .val (.ref c1), .unset, .unset, .unset, .unset, .unset, .unset, .unset, .unset, .unset, .unset] [(.int (2 : Int32))])) (fun _ k => XS.iconst X29.here hx rfl (hb hby at_74) k) ?_
      obtain ⟨T30, h30, k30, X30, e30, E30, A30, st30⟩ := newP X29 hx hZ (hw _ (List.mem_of_getElem? (i := 0) rfl)) e29 (g := (mkF m 75 #[.val (.int p0), .val (.int p1), .val (.int p2), .val (.int p3), .val (.int p4), .val (.int p5), .val (.int pc), .val (.int ev1), .val (.int pr1), .val (.int ev2), .val (.int pr2), .val (.int ev3), .val (.int pr3), .val (.ref c1), .unset, .unset, .unset, .unset, .unset, .unset, .unset, .unset, .unset, .unset] [(.int (2 : Int32))])) rfl (hb hby at_75) rfl (by decide) (cap := 2) (by decide) (by decide) (by decide) (by decide)
      obtain ⟨c2, gc2⟩ : ∃ z, z = h29.size := ⟨_, rfl⟩
      rw [← gc2] at A30 st30
      have ne_c1_c2 : c1 ≠ c2 := own_ne V_c1.lt gc2
      have ge_c2 : n0 ≤ c2 := own_ge Z0''' gc2
      have O := O.ext E30
      have V_c1 := V_c1.ext E30
      have Z0'''' := Nat.le_trans Z0''' E30.1
      have V_c2 := own_Av.new (n := 2) A30 rfl
      refine own_st (T' := T30) (g' := (mkF m 77 #[.val (.int p0), .val (.int p1), .val (.int p2), .val (.int p3), .val (.int p4), .val (.int p5), .val (.int pc), .val (.int ev1), .val (.int pr1), .val (.int ev2), .val (.int pr2), .val (.int ev3), .val (.int pr3), .val (.ref c1), .unset, .unset, .unset, .unset, .unset, .unset, .unset, .unset, .unset, .unset] [(.ref c2)])) st30 ?_
      refine own_st (T' := T30) (g' := (mkF m 78 #[.val (.int p0), .val (.int p1), .val (.int p2), .val (.int p3), .val (.int p4), .val (.int p5), .val (.int pc), .val (.int ev1), .val (.int pr1), .val (.int ev2), .val (.int pr2), .val (.int ev3), .val (.int pr3), .val (.ref c1), .unset, .unset, .unset, .unset, .unset, .unset, .unset, .unset, .unset, .unset] [(.ref c2), (.ref c2)])) (fun _ k => XS.dup X30.here hx rfl (hb hby at_77) rfl rfl k) ?_
      refine own_st (T' := T30) (g' := (mkF m 79 #[.val (.int p0), .val (.int p1), .val (.int p2), .val (.int p3), .val (.int p4), .val (.int p5), .val (.int pc), .val (.int ev1), .val (.int pr1), .val (.int ev2), .val (.int pr2), .val (.int ev3), .val (.int pr3), .val (.ref c1), .unset, .unset, .unset, .unset, .unset, .unset, .unset, .unset, .unset, .unset] [(.int (0 : Int32)), (.ref c2), (.ref c2)])) (fun _ k => XS.iconst X30.here hx rfl (hb hby at_78) k) ?_
      refine own_st (T' := T30) (g' := (mkF m 81 #[.val (.int p0), .val (.int p1), .val (.int p2), .val (.int p3), .val (.int p4), .val (.int p5), .val (.int pc), .val (.int ev1), .val (.int pr1), .val (.int ev2), .val (.int pr2), .val (.int ev3), .val (.int pr3), .val (.ref c1), .unset, .unset, .unset, .unset, .unset, .unset, .unset, .unset, .unset, .unset] [(.int p5), (.int (0 : Int32)), (.ref c2), (.ref c2)])) (fun _ k => XS.iload X30.here hx rfl (hb hby at_79) rfl k) ?_
      refine own_st (T' := T30) (g' := (mkF m 84 #[.val (.int p0), .val (.int p1), .val (.int p2), .val (.int p3), .val (.int p4), .val (.int p5), .val (.int pc), .val (.int ev1), .val (.int pr1), .val (.int ev2), .val (.int pr2), .val (.int ev3), .val (.int pr3), .val (.ref c1), .unset, .unset, .unset, .unset, .unset, .unset, .unset, .unset, .unset, .unset] [(.int (255 : Int32)), (.int p5), (.int (0 : Int32)), (.ref c2), (.ref c2)])) (fun _ k => XS.sipush X30.here hx rfl (hb hby at_81) k) ?_
      refine own_st (T' := T30) (g' := (mkF m 85 #[.val (.int p0), .val (.int p1), .val (.int p2), .val (.int p3), .val (.int p4), .val (.int p5), .val (.int pc), .val (.int ev1), .val (.int pr1), .val (.int ev2), .val (.int pr2), .val (.int ev3), .val (.int pr3), .val (.ref c1), .unset, .unset, .unset, .unset, .unset, .unset, .unset, .unset, .unset, .unset] [(.int (p5 &&& (255 : Int32))), (.int (0 : Int32)), (.ref c2), (.ref c2)])) (fun _ k => XS.iand X30.here hx rfl (hb hby at_84) rfl k) ?_
      refine own_st (T' := T30) (g' := (mkF m 86 #[.val (.int p0), .val (.int p1), .val (.int p2), .val (.int p3), .val (.int p4), .val (.int p5), .val (.int pc), .val (.int ev1), .val (.int pr1), .val (.int ev2), .val (.int pr2), .val (.int ev3), .val (.int pr3), .val (.ref c1), .unset, .unset, .unset, .unset, .unset, .unset, .unset, .unset, .unset, .unset] [(.int ((p5 &&& (255 : Int32)).toUInt32.toUInt16.toUInt32.toInt32)), (.int (0 : Int32)), (.ref c2), (.ref c2)])) (fun _ k => XS.i2c X30.here hx rfl (hb hby at_85) rfl k) ?_
      obtain ⟨T31, h31, X31, e31, W31, V31, st31⟩ := own_stC X30 hx hZ e30 V_c2 (i := 0) (by decide) (by decide) (g := (mkF m 86 #[.val (.int p0), .val (.int p1), .val (.int p2), .val (.int p3), .val (.int p4), .val (.int p5), .val (.int pc), .val (.int ev1), .val (.int pr1), .val (.int ev2), .val (.int pr2), .val (.int ev3), .val (.int pr3), .val (.ref c1), .unset, .unset, .unset, .unset, .unset, .unset, .unset, .unset, .unset, .unset] [(.int ((p5 &&& (255 : Int32)).toUInt32.toUInt16.toUInt32.toInt32)), (.int (0 : Int32)), (.ref c2), (.ref c2)])) rfl rfl (hb hby at_86)
      have O := O.wr W31 ge_c2
      have V_c1 := V_c1.other W31 ne_c1_c2
      have Z0''''' := Nat.le_trans Z0'''' (Keep.of_wr W31).1
      have N0''' := Fr.snoc X31 N0'' ge_c2
      have V_c2 := V31
      refine own_st (T' := T31) (g' := (mkF m 87 #[.val (.int p0), .val (.int p1), .val (.int p2), .val (.int p3), .val (.int p4), .val (.int p5), .val (.int pc), .val (.int ev1), .val (.int pr1), .val (.int ev2), .val (.int pr2), .val (.int ev3), .val (.int pr3), .val (.ref c1), .unset, .unset, .unset, .unset, .unset, .unset, .unset, .unset, .unset, .unset] [(.ref c2)])) st31 ?_
      refine own_st (T' := T31) (g' := (mkF m 88 #[.val (.int p0), .val (.int p1), .val (.int p2), .val (.int p3), .val (.int p4), .val (.int p5), .val (.int pc), .val (.int ev1), .val (.int pr1), .val (.int ev2), .val (.int pr2), .val (.int ev3), .val (.int pr3), .val (.ref c1), .unset, .unset, .unset, .unset, .unset, .unset, .unset, .unset, .unset, .unset] [(.ref c2), (.ref c2)])) (fun _ k => XS.dup X31.here hx rfl (hb hby at_87) rfl rfl k) ?_
      refine own_st (T' := T31) (g' := (mkF m 89 #[.val (.int p0), .val (.int p1), .val (.int p2), .val (.int p3), .val (.int p4), .val (.int p5), .val (.int pc), .val (.int ev1), .val (.int pr1), .val (.int ev2), .val (.int pr2), .val (.int ev3), .val (.int pr3), .val (.ref c1), .unset, .unset, .unset, .unset, .unset, .unset, .unset, .unset, .unset, .unset] [(.int (1 : Int32)), (.ref c2), (.ref c2)])) (fun _ k => XS.iconst X31.here hx rfl (hb hby at_88) k) ?_
      refine own_st (T' := T31) (g' := (mkF m 91 #[.val (.int p0), .val (.int p1), .val (.int p2), .val (.int p3), .val (.int p4), .val (.int p5), .val (.int pc), .val (.int ev1), .val (.int pr1), .val (.int ev2), .val (.int pr2), .val (.int ev3), .val (.int pr3), .val (.ref c1), .unset, .unset, .unset, .unset, .unset, .unset, .unset, .unset, .unset, .unset] [(.int p5), (.int (1 : Int32)), (.ref c2), (.ref c2)])) (fun _ k => XS.iload X31.here hx rfl (hb hby at_89) rfl k) ?_
      refine own_st (T' := T31) (g' := (mkF m 93 #[.val (.int p0), .val (.int p1), .val (.int p2), .val (.int p3), .val (.int p4), .val (.int p5), .val (.int pc), .val (.int ev1), .val (.int pr1), .val (.int ev2), .val (.int pr2), .val (.int ev3), .val (.int pr3), .val (.ref c1), .unset, .unset, .unset, .unset, .unset, .unset, .unset, .unset, .unset, .unset] [(.int (8 : Int32)), (.int p5), (.int (1 : Int32)), (.ref c2), (.ref c2)])) (fun _ k => XS.bipush X31.here hx rfl (hb hby at_91) k) ?_
      refine own_st (T' := T31) (g' := (mkF m 94 #[.val (.int p0), .val (.int p1), .val (.int p2), .val (.int p3), .val (.int p4), .val (.int p5), .val (.int pc), .val (.int ev1), .val (.int pr1), .val (.int ev2), .val (.int pr2), .val (.int ev3), .val (.int pr3), .val (.ref c1), .unset, .unset, .unset, .unset, .unset, .unset, .unset, .unset, .unset, .unset] [(.int ((p5.toUInt32 >>> ((8 : Int32) &&& 31).toUInt32).toInt32)), (.int (1 : Int32)), (.ref c2), (.ref c2)])) (fun _ k => XS.iushr X31.here hx rfl (hb hby at_93) rfl k) ?_
      refine own_st (T' := T31) (g' := (mkF m 97 #[.val (.int p0), .val (.int p1), .val (.int p2), .val (.int p3), .val (.int p4), .val (.int p5), .val (.int pc), .val (.int ev1), .val (.int pr1), .val (.int ev2), .val (.int pr2), .val (.int ev3), .val (.int pr3), .val (.ref c1), .unset, .unset, .unset, .unset, .unset, .unset, .unset, .unset, .unset, .unset] [(.int (255 : Int32)), (.int ((p5.toUInt32 >>> ((8 : Int32) &&& 31).toUInt32).toInt32)), (.int (1 : Int32)), (.ref c2), (.ref c2)])) (fun _ k => XS.sipush X31.here hx rfl (hb hby at_94) k) ?_
      refine own_st (T' := T31) (g' := (mkF m 98 #[.val (.int p0), .val (.int p1), .val (.int p2), .val (.int p3), .val (.int p4), .val (.int p5), .val (.int pc), .val (.int ev1), .val (.int pr1), .val (.int ev2), .val (.int pr2), .val (.int ev3), .val (.int pr3), .val (.ref c1), .unset, .unset, .unset, .unset, .unset, .unset, .unset, .unset, .unset, .unset] [(.int (((p5.toUInt32 >>> ((8 : Int32) &&& 31).toUInt32).toInt32) &&& (255 : Int32))), (.int (1 : Int32)), (.ref c2), (.ref c2)])) (fun _ k => XS.iand X31.here hx rfl (hb hby at_97) rfl k) ?_
      refine own_st (T' := T31) (g' := (mkF m 99 #[.val (.int p0), .val (.int p1), .val (.int p2), .val (.int p3), .val (.int p4), .val (.int p5), .val (.int pc), .val (.int ev1), .val (.int pr1), .val (.int ev2), .val (.int pr2), .val (.int ev3), .val (.int pr3), .val (.ref c1), .unset, .unset, .unset, .unset, .unset, .unset, .unset, .unset, .unset, .unset] [(.int ((((p5.toUInt32 >>> ((8 : Int32) &&& 31).toUInt32).toInt32) &&& (255 : Int32)).toUInt32.toUInt16.toUInt32.toInt32)), (.int (1 : Int32)), (.ref c2), (.ref c2)])) (fun _ k => XS.i2c X31.here hx rfl (hb hby at_98) rfl k) ?_
      obtain ⟨T32, h32, X32, e32, W32, V32, st32⟩ := own_stC X31 hx hZ e31 V_c2 (i := 1) (by decide) (by decide) (g := (mkF m 99 #[.val (.int p0), .val (.int p1), .val (.int p2), .val (.int p3), .val (.int p4), .val (.int p5), .val (.int pc), .val (.int ev1), .val (.int pr1), .val (.int ev2), .val (.int pr2), .val (.int ev3), .val (.int pr3), .val (.ref c1), .unset, .unset, .unset, .unset, .unset, .unset, .unset, .unset, .unset, .unset] [(.int ((((p5.toUInt32 >>> ((8 : Int32) &&& 31).toUInt32).toInt32) &&& (255 : Int32)).toUInt32.toUInt16.toUInt32.toInt32)), (.int (1 : Int32)), (.ref c2), (.ref c2)])) rfl rfl (hb hby at_99)
      have O := O.wr W32 ge_c2
      have V_c1 := V_c1.other W32 ne_c1_c2
      have Z0'''''' := Nat.le_trans Z0''''' (Keep.of_wr W32).1
      have N0'''' := Fr.snoc X32 N0''' ge_c2
      have V_c2 := V32
      refine own_st (T' := T32) (g' := (mkF m 100 #[.val (.int p0), .val (.int p1), .val (.int p2), .val (.int p3), .val (.int p4), .val (.int p5), .val (.int pc), .val (.int ev1), .val (.int pr1), .val (.int ev2), .val (.int pr2), .val (.int ev3), .val (.int pr3), .val (.ref c1), .unset, .unset, .unset, .unset, .unset, .unset, .unset, .unset, .unset, .unset] [(.ref c2)])) st32 ?_
      refine own_st (T' := T32) (g' := (mkF m 102 #[.val (.int p0), .val (.int p1), .val (.int p2), .val (.int p3), .val (.int p4), .val (.int p5), .val (.int pc), .val (.int ev1), .val (.int pr1), .val (.int ev2), .val (.int pr2), .val (.int ev3), .val (.int pr3), .val (.ref c1), .val (.ref c2), .unset, .unset, .unset, .unset, .unset, .unset, .unset, .unset, .unset] [])) (fun _ k => XS.astore X32.here hx rfl (hb hby at_100) rfl rfl (l' := #[.val (.int p0), .val (.int p1), .val (.int p2), .val (.int p3), .val (.int p4), .val (.int p5), .val (.int pc), .val (.int ev1), .val (.int pr1), .val (.int ev2), .val (.int pr2), .val (.int ev3), .val (.int pr3), .val (.ref c1), .val (.ref c2), .unset, .unset, .unset, .unset, .unset, .unset, .unset, .unset, .unset]) rfl k) ?_
      obtain ⟨T33, h33, X33, e33, E33, A33, D33, -, st33⟩ := newO X32 hx hZ hown (hw _ (List.mem_of_getElem? (i := 1) rfl)) (hw _ (List.mem_of_getElem? (i := 2) rfl)) (hw _ (List.mem_of_getElem? (i := 3) rfl)) e32 (g := (mkF m 102 #[.val (.int p0), .val (.int p1), .val (.int p2), .val (.int p3), .val (.int p4), .val (.int p5), .val (.int pc), .val (.int ev1), .val (.int pr1), .val (.int ev2), .val (.int pr2), .val (.int ev3), .val (.int pr3), .val (.ref c1), .val (.ref c2), .unset, .unset, .unset, .unset, .unset, .unset, .unset, .unset, .unset] [])) rfl (hb hby at_102) (by decide) (by decide)
      obtain ⟨sa, gsa⟩ : ∃ z, z = h32.size := ⟨_, rfl⟩
      rw [← gsa] at A33 D33 st33
      have ne_c1_sa : c1 ≠ sa := own_ne V_c1.lt gsa
      have ne_c2_sa : c2 ≠ sa := own_ne V_c2.lt gsa
      have ge_sa : n0 ≤ sa := own_ge Z0'''''' gsa
      have O := O.ext E33
      have V_c1 := V_c1.ext E33
      have V_c2 := V_c2.ext E33
      have Z0''''''' := Nat.le_trans Z0'''''' E33.1
      have E_sa := A33
      have F_coder_sa : Fld Z h33 sa "java/lang/String" "coder" "B" (.int (0 : Int32)) := D33 (Or.inr (hw _ (List.mem_of_getElem? (i := 27) rfl))) (ty := .byte) (by decide)
      have F_value_sa : Fld Z h33 sa "java/lang/String" "value" "[B" .null := D33 (Or.inr (hw _ (List.mem_of_getElem? (i := 29) rfl))) (ty := (.array .byte)) (by decide)
      refine own_st (T' := T33) (g' := (mkF m 105 #[.val (.int p0), .val (.int p1), .val (.int p2), .val (.int p3), .val (.int p4), .val (.int p5), .val (.int pc), .val (.int ev1), .val (.int pr1), .val (.int ev2), .val (.int pr2), .val (.int ev3), .val (.int pr3), .val (.ref c1), .val (.ref c2), .unset, .unset, .unset, .unset, .unset, .unset, .unset, .unset, .unset] [(.ref sa)])) st33 ?_
      refine own_st (T' := T33) (g' := (mkF m 106 #[.val (.int p0), .val (.int p1), .val (.int p2), .val (.int p3), .val (.int p4), .val (.int p5), .val (.int pc), .val (.int ev1), .val (.int pr1), .val (.int ev2), .val (.int pr2), .val (.int ev3), .val (.int pr3), .val (.ref c1), .val (.ref c2), .unset, .unset, .unset, .unset, .unset, .unset, .unset, .unset, .unset] [(.ref sa), (.ref sa)])) (fun _ k => XS.dup X33.here hx rfl (hb hby at_105) rfl rfl k) ?_
      refine own_st (T' := T33) (g' := (mkF m 108 #[.val (.int p0), .val (.int p1), .val (.int p2), .val (.int p3), .val (.int p4), .val (.int p5), .val (.int pc), .val (.int ev1), .val (.int pr1), .val (.int ev2), .val (.int pr2), .val (.int ev3), .val (.int pr3), .val (.ref c1), .val (.ref c2), .unset, .unset, .unset, .unset, .unset, .unset, .unset, .unset, .unset] [(.ref c1), (.ref sa), (.ref sa)])) (fun _ k => XS.aload X33.here hx rfl (hb hby at_106) rfl rfl k) ?_
      have K_sa : Arv Z h33 c1 k27 .char (2 : Int32) (([((p4 &&& (255 : Int32)).toUInt32.toUInt16.toUInt32.toInt32), ((((p4.toUInt32 >>> ((8 : Int32) &&& 31).toUInt32).toInt32) &&& (255 : Int32)).toUInt32.toUInt16.toUInt32.toInt32)] : List Int32).map Value.int) (.int 0) := V_c1.arv rfl (by decide) rfl (fun i hi => by rcases (by omega : i = 0 ∨ i = 1) with rfl | rfl <;> exact congrArg Value.int (own_narc _)) (own_hp2 _ _)
      obtain ⟨_, _, ⟨T34, L34, k34, n34⟩, -, X34, ⟨Lc34, hQ34, l34, y34, z34⟩, st34⟩ := X33.specialBack hx (y := (⟨"java/lang/String", "<init>", "([C)V"⟩ : MethodName)) rfl hown (mvT hZ (hw _ (List.mem_of_getElem? (i := 4) rfl))) (mvT hZ (hw _ (List.mem_of_getElem? (i := 5) rfl))) (mvT hZ (hw _ (List.mem_of_getElem? (i := 6) rfl))) (by decide) (StrChars.Road.backV (W := 1) hZ hws (kI := 4) (hw _ (List.mem_of_getElem? (i := 2) rfl)) (cs := ([((p4 &&& (255 : Int32)).toUInt32.toUInt16.toUInt32.toInt32), ((((p4.toUInt32 >>> ((8 : Int32) &&& 31).toUInt32).toInt32) &&& (255 : Int32)).toUInt32.toUInt16.toUInt32.toInt32)] : List Int32)) (bs := ([((p4 &&& (255 : Int32)).toUInt32.toUInt16.toUInt32.toInt32), ((((p4.toUInt32 >>> ((8 : Int32) &&& 31).toUInt32).toInt32) &&& (255 : Int32)).toUInt32.toUInt16.toUInt32.toInt32)] : List Int32).map (fun c => c.toInt8.toInt32)) (n := 2) ge_sa Z0''''''' E_sa F_value_sa F_coder_sa K_sa (SC0.ext O.2) hcs rfl rfl (by decide) (by decide) (own_hp2 _ _) rfl (by decide) (by decide)) (g := (mkF m 108 #[.val (.int p0), .val (.int p1), .val (.int p2), .val (.int p3), .val (.int p4), .val (.int p5), .val (.int pc), .val (.int ev1), .val (.int pr1), .val (.int ev2), .val (.int pr2), .val (.int ev3), .val (.int pr3), .val (.ref c1), .val (.ref c2), .unset, .unset, .unset, .unset, .unset, .unset, .unset, .unset, .unset] [(.ref c1), (.ref sa), (.ref sa)])) rfl (by rw [hml]; rfl) (Steps.refl _) (a := sa) (argsL := [(.ref c1)]) (rest := [(.ref sa)]) (lenOf own_pd0 rfl) rfl (by show 2 * 0 + _ ≤ _; exact Nat.le_of_eq rfl) (hb hby at_108) (fun _ _ => ⟨rfl, e33, (by decide : (((0 + 1) + 1) + 1) + 1 ≤ _), (by decide : (((0 + 2) + 2) + 4) + 2 ≤ _)⟩)
      dsimp only [Pt.U, Pt.locs, Pt.cells, Pt.slots] at X34 l34 y34 z34 st34 hQ34
      subst l34 y34 z34
      obtain ⟨rfl, N34q, K34, -, -, ts_sa, -⟩ := hQ34
      have N0''''' := Fr.app N0'''' N34q
      have O := O.keep K34 ((allS ge_sa all0))
      have V_c1 := V_c1.keep K34 (ninS ne_c1_sa nin0)
      have V_c2 := V_c2.keep K34 (ninS ne_c2_sa nin0)
      have E_sa := E_sa.keep K34
      have Z0'''''''' := Nat.le_trans Z0''''''' K34.1
      refine own_tr (T' := T34) (g' := (mkF m 111 #[.val (.int p0), .val (.int p1), .val (.int p2), .val (.int p3), .val (.int p4), .val (.int p5), .val (.int pc), .val (.int ev1), .val (.int pr1), .val (.int ev2), .val (.int pr2), .val (.int ev3), .val (.int pr3), .val (.ref c1), .val (.ref c2), .unset, .unset, .unset, .unset, .unset, .unset, .unset, .unset, .unset] [(.ref sa)])) st34 ?_
      refine own_st (T' := T34) (g' := (mkF m 113 #[.val (.int p0), .val (.int p1), .val (.int p2), .val (.int p3), .val (.int p4), .val (.int p5), .val (.int pc), .val (.int ev1), .val (.int pr1), .val (.int ev2), .val (.int pr2), .val (.int ev3), .val (.int pr3), .val (.ref c1), .val (.ref c2), .val (.ref sa), .unset, .unset, .unset, .unset, .unset, .unset, .unset, .unset] [])) (fun _ k => XS.astore X34.here hx rfl (hb hby at_111) rfl rfl (l' := #[.val (.int p0), .val (.int p1), .val (.int p2), .val (.int p3), .val (.int p4), .val (.int p5), .val (.int pc), .val (.int ev1), .val (.int pr1), .val (.int ev2), .val (.int pr2), .val (.int ev3), .val (.int pr3), .val (.ref c1), .val (.ref c2), .val (.ref sa), .unset, .unset, .unset, .unset, .unset, .unset, .unset, .unset]) rfl k) ?_
      obtain ⟨T35, h35, X35, e35, E35, A35, D35, -, st35⟩ := newO X34 hx hZ hown (hw _ (List.mem_of_getElem? (i := 1) rfl)) (hw _ (List.mem_of_getElem? (i := 2) rfl)) (hw _ (List.mem_of_getElem? (i := 3) rfl)) rfl (g := (mkF m 113 #[.val (.int p0), .val (.int p1), .val (.int p2), .val (.int p3), .val (.int p4), .val (.int p5), .val (.int pc), .val (.int ev1), .val (.int pr1), .val (.int ev2), .val (.int pr2), .val (.int ev3), .val (.int pr3), .val (.ref c1), .val (.ref c2), .val (.ref sa), .unset, .unset, .unset, .unset, .unset, .unset, .unset, .unset] [])) rfl (hb hby at_113) (by decide) (by decide)
      obtain ⟨sb, gsb⟩ : ∃ z, z = T34.heap.size := ⟨_, rfl⟩
      rw [← gsb] at A35 D35 st35
      have ne_c2_sb : c2 ≠ sb := own_ne V_c2.lt gsb
      have ne_sa_sb : sa ≠ sb := own_ne E_sa.lt gsb
      have ge_sb : n0 ≤ sb := own_ge Z0'''''''' gsb
      have O := O.ext E35
      have V_c2 := V_c2.ext E35
      have E_sa := E_sa.ext E35
      have Z0''''''''' := Nat.le_trans Z0'''''''' E35.1
      have E_sb := A35
      have F_coder_sb : Fld Z h35 sb "java/lang/String" "coder" "B" (.int (0 : Int32)) := D35 (Or.inr (hw _ (List.mem_of_getElem? (i := 27) rfl))) (ty := .byte) (by decide)
      have F_value_sb : Fld Z h35 sb "java/lang/String" "value" "[B" .null := D35 (Or.inr (hw _ (List.mem_of_getElem? (i := 29) rfl))) (ty := (.array .byte)) (by decide)
      refine own_st (T' := T35) (g' := (mkF m 116 #[.val (.int p0), .val (.int p1), .val (.int p2), .val (.int p3), .val (.int p4), .val (.int p5), .val (.int pc), .val (.int ev1), .val (.int pr1), .val (.int ev2), .val (.int pr2), .val (.int ev3), .val (.int pr3), .val (.ref c1), .val (.ref c2), .val (.ref sa), .unset, .unset, .unset, .unset, .unset, .unset, .unset, .unset] [(.ref sb)])) st35 ?_
      refine own_st (T' := T35) (g' := (mkF m 117 #[.val (.int p0), .val (.int p1), .val (.int p2), .val (.int p3), .val (.int p4), .val (.int p5), .val (.int pc), .val (.int ev1), .val (.int pr1), .val (.int ev2), .val (.int pr2), .val (.int ev3), .val (.int pr3), .val (.ref c1), .val (.ref c2), .val (.ref sa), .unset, .unset, .unset, .unset, .unset, .unset, .unset, .unset] [(.ref sb), (.ref sb)])) (fun _ k => XS.dup X35.here hx rfl (hb hby at_116) rfl rfl k) ?_
      refine own_st (T' := T35) (g' := (mkF m 119 #[.val (.int p0), .val (.int p1), .val (.int p2), .val (.int p3), .val (.int p4), .val (.int p5), .val (.int pc), .val (.int ev1), .val (.int pr1), .val (.int ev2), .val (.int pr2), .val (.int ev3), .val (.int pr3), .val (.ref c1), .val (.ref c2), .val (.ref sa), .unset, .unset, .unset, .unset, .unset, .unset, .unset, .unset] [(.ref c2), (.ref sb), (.ref sb)])) (fun _ k => XS.aload X35.here hx rfl (hb hby at_117) rfl rfl k) ?_
      have K_sb : Arv Z h35 c2 k30 .char (2 : Int32) (([((p5 &&& (255 : Int32)).toUInt32.toUInt16.toUInt32.toInt32), ((((p5.toUInt32 >>> ((8 : Int32) &&& 31).toUInt32).toInt32) &&& (255 : Int32)).toUInt32.toUInt16.toUInt32.toInt32)] : List Int32).map Value.int) (.int 0) := V_c2.arv rfl (by decide) rfl (fun i hi => by rcases (by omega : i = 0 ∨ i = 1) with rfl | rfl <;> exact congrArg Value.int (own_narc _)) (own_hp2 _ _)
      obtain ⟨_, _, ⟨T36, L36, k36, n36⟩, -, X36, ⟨Lc36, hQ36, l36, y36, z36⟩, st36⟩ := X35.specialBack hx (y := (⟨"java/lang/String", "<init>", "([C)V"⟩ : MethodName)) rfl hown (mvT hZ (hw _ (List.mem_of_getElem? (i := 4) rfl))) (mvT hZ (hw _ (List.mem_of_getElem? (i := 5) rfl))) (mvT hZ (hw _ (List.mem_of_getElem? (i := 6) rfl))) (by decide) (StrChars.Road.backV (W := 1) hZ hws (kI := 4) (hw _ (List.mem_of_getElem? (i := 2) rfl)) (cs := ([((p5 &&& (255 : Int32)).toUInt32.toUInt16.toUInt32.toInt32), ((((p5.toUInt32 >>> ((8 : Int32) &&& 31).toUInt32).toInt32) &&& (255 : Int32)).toUInt32.toUInt16.toUInt32.toInt32)] : List Int32)) (bs := ([((p5 &&& (255 : Int32)).toUInt32.toUInt16.toUInt32.toInt32), ((((p5.toUInt32 >>> ((8 : Int32) &&& 31).toUInt32).toInt32) &&& (255 : Int32)).toUInt32.toUInt16.toUInt32.toInt32)] : List Int32).map (fun c => c.toInt8.toInt32)) (n := 2) ge_sb Z0''''''''' E_sb F_value_sb F_coder_sb K_sb (SC0.ext O.2) hcs rfl rfl (by decide) (by decide) (own_hp2 _ _) rfl (by decide) (by decide)) (g := (mkF m 119 #[.val (.int p0), .val (.int p1), .val (.int p2), .val (.int p3), .val (.int p4), .val (.int p5), .val (.int pc), .val (.int ev1), .val (.int pr1), .val (.int ev2), .val (.int pr2), .val (.int ev3), .val (.int pr3), .val (.ref c1), .val (.ref c2), .val (.ref sa), .unset, .unset, .unset, .unset, .unset, .unset, .unset, .unset] [(.ref c2), (.ref sb), (.ref sb)])) rfl (by rw [hml]; rfl) (Steps.refl _) (a := sb) (argsL := [(.ref c2)]) (rest := [(.ref sb)]) (lenOf own_pd0 rfl) rfl (by show 2 * 0 + _ ≤ _; exact Nat.le_of_eq rfl) (hb hby at_119) (fun _ _ => ⟨rfl, e35, (by decide : (((((0 + 1) + 1) + 1) + 1) + 1) + 1 ≤ _), (by decide : (((((0 + 2) + 2) + 4) + 2) + 4) + 2 ≤ _)⟩)
      dsimp only [Pt.U, Pt.locs, Pt.cells, Pt.slots] at X36 l36 y36 z36 st36 hQ36
      subst l36 y36 z36
      obtain ⟨rfl, N36q, K36, -, -, ts_sb, -⟩ := hQ36
      have N0'''''' := Fr.app N0''''' N36q
      have O := O.keep K36 ((allS ge_sb all0))
      have V_c2 := V_c2.keep K36 (ninS ne_c2_sb nin0)
      have E_sa := E_sa.keep K36
      have E_sb := E_sb.keep K36
      have Z0'''''''''' := Nat.le_trans Z0''''''''' K36.1
      refine own_tr (T' := T36) (g' := (mkF m 122 #[.val (.int p0), .val (.int p1), .val (.int p2), .val (.int p3), .val (.int p4), .val (.int p5), .val (.int pc), .val (.int ev1), .val (.int pr1), .val (.int ev2), .val (.int pr2), .val (.int ev3), .val (.int pr3), .val (.ref c1), .val (.ref c2), .val (.ref sa), .unset, .unset, .unset, .unset, .unset, .unset, .unset, .unset] [(.ref sb)])) st36 ?_
      refine own_st (T' := T36) (g' := (mkF m 124 #[.val (.int p0), .val (.int p1), .val (.int p2), .val (.int p3), .val (.int p4), .val (.int p5), .val (.int pc), .val (.int ev1), .val (.int pr1), .val (.int ev2), .val (.int pr2), .val (.int ev3), .val (.int pr3), .val (.ref c1), .val (.ref c2), .val (.ref sa), .val (.ref sb), .unset, .unset, .unset, .unset, .unset, .unset, .unset] [])) (fun _ k => XS.astore X36.here hx rfl (hb hby at_122) rfl rfl (l' := #[.val (.int p0), .val (.int p1), .val (.int p2), .val (.int p3), .val (.int p4), .val (.int p5), .val (.int pc), .val (.int ev1), .val (.int pr1), .val (.int ev2), .val (.int pr2), .val (.int ev3), .val (.int pr3), .val (.ref c1), .val (.ref c2), .val (.ref sa), .val (.ref sb), .unset, .unset, .unset, .unset, .unset, .unset, .unset]) rfl k) ?_
      obtain ⟨T37, h37, X37, e37, E37, A37, D37, -, st37⟩ := newO X36 hx hZ hown (hw _ (List.mem_of_getElem? (i := 30) rfl)) (hw _ (List.mem_of_getElem? (i := 31) rfl)) (hw _ (List.mem_of_getElem? (i := 32) rfl)) rfl (g := (mkF m 124 #[.val (.int p0), .val (.int p1), .val (.int p2), .val (.int p3), .val (.int p4), .val (.int p5), .val (.int pc), .val (.int ev1), .val (.int pr1), .val (.int ev2), .val (.int pr2), .val (.int ev3), .val (.int pr3), .val (.ref c1), .val (.ref c2), .val (.ref sa), .val (.ref sb), .unset, .unset, .unset, .unset, .unset, .unset, .unset] [])) rfl (hb hby at_124) (by decide) (by decide)
      obtain ⟨u, gu⟩ : ∃ z, z = T36.heap.size := ⟨_, rfl⟩
      rw [← gu] at A37 D37 st37
      have ne_sa_u : sa ≠ u := own_ne E_sa.lt gu
      have ne_sb_u : sb ≠ u := own_ne E_sb.lt gu
      have ge_u : n0 ≤ u := own_ge Z0'''''''''' gu
      have O := O.ext E37
      have E_sa := E_sa.ext E37
      have E_sb := E_sb.ext E37
      have Z0''''''''''' := Nat.le_trans Z0'''''''''' E37.1
      have E_u := A37
      have F_id_u : Fld Z h37 u "com/example/funnelwright/funnelwright/UserEvents" "id" "[B" .null := D37 (Or.inl (hw _ (List.mem_of_getElem? (i := 38) rfl))) (ty := (.array .byte)) (by decide)
      have F_times_u : Fld Z h37 u "com/example/funnelwright/funnelwright/UserEvents" "times" "[J" .null := D37 (Or.inl (hw _ (List.mem_of_getElem? (i := 41) rfl))) (ty := (.array .long)) (by decide)
      have F_kinds_u : Fld Z h37 u "com/example/funnelwright/funnelwright/UserEvents" "kinds" "[I" .null := D37 (Or.inl (hw _ (List.mem_of_getElem? (i := 44) rfl))) (ty := (.array .int)) (by decide)
      have F_propertyCount_u : Fld Z h37 u "com/example/funnelwright/funnelwright/UserEvents" "propertyCount" "I" (.int (0 : Int32)) := D37 (Or.inr (hw _ (List.mem_of_getElem? (i := 46) rfl))) (ty := .int) (by decide)
      have F_properties_u : Fld Z h37 u "com/example/funnelwright/funnelwright/UserEvents" "properties" "[Ljava/lang/String;" .null := D37 (Or.inl (hw _ (List.mem_of_getElem? (i := 50) rfl))) (ty := (.array (.object "java/lang/String"))) (by decide)
      have F_size_u : Fld Z h37 u "com/example/funnelwright/funnelwright/UserEvents" "size" "I" (.int (0 : Int32)) := D37 (Or.inl (hw _ (List.mem_of_getElem? (i := 57) rfl))) (ty := .int) (by decide)
      refine own_st (T' := T37) (g' := (mkF m 127 #[.val (.int p0), .val (.int p1), .val (.int p2), .val (.int p3), .val (.int p4), .val (.int p5), .val (.int pc), .val (.int ev1), .val (.int pr1), .val (.int ev2), .val (.int pr2), .val (.int ev3), .val (.int pr3), .val (.ref c1), .val (.ref c2), .val (.ref sa), .val (.ref sb), .unset, .unset, .unset, .unset, .unset, .unset, .unset] [(.ref u)])) st37 ?_
      refine own_st (T' := T37) (g' := (mkF m 128 #[.val (.int p0), .val (.int p1), .val (.int p2), .val (.int p3), .val (.int p4), .val (.int p5), .val (.int pc), .val (.int ev1), .val (.int pr1), .val (.int ev2), .val (.int pr2), .val (.int ev3), .val (.int pr3), .val (.ref c1), .val (.ref c2), .val (.ref sa), .val (.ref sb), .unset, .unset, .unset, .unset, .unset, .unset, .unset] [(.ref u), (.ref u)])) (fun _ k => XS.dup X37.here hx rfl (hb hby at_127) rfl rfl k) ?_
      refine own_st (T' := T37) (g' := (mkF m 130 #[.val (.int p0), .val (.int p1), .val (.int p2), .val (.int p3), .val (.int p4), .val (.int p5), .val (.int pc), .val (.int ev1), .val (.int pr1), .val (.int ev2), .val (.int pr2), .val (.int ev3), .val (.int pr3), .val (.ref c1), .val (.ref c2), .val (.ref sa), .val (.ref sb), .unset, .unset, .unset, .unset, .unset, .unset, .unset] [(.int pc), (.ref u), (.ref u)])) (fun _ k => XS.iload X37.here hx rfl (hb hby at_128) rfl k) ?_
      have lt_sa := E_sa.lt
      have lt_sb := E_sb.lt
      have lt_u := E_u.lt
      obtain ⟨_, _, ⟨T38, L38, k38, n38⟩, -, X38, ⟨Lc38, hQ38, l38, y38, z38⟩, st38⟩ := X37.specialBack hx (y := (⟨"com/example/funnelwright/funnelwright/UserEvents", "<init>", "(I)V"⟩ : MethodName)) rfl hown (mvT hZ (hw _ (List.mem_of_getElem? (i := 33) rfl))) (mvT hZ (hw _ (List.mem_of_getElem? (i := 34) rfl))) (mvT hZ (hw _ (List.mem_of_getElem? (i := 35) rfl))) (by decide) (backOf (W := 1) (own_ini l Z a0 hw [] u pc N h37 n0 Z0''''''''''' F_id_u F_times_u F_kinds_u F_propertyCount_u F_properties_u F_size_u E_u ge_u hN hN64) hZ (hw _ (List.mem_of_getElem? (i := 35) rfl)) (hw _ (List.mem_of_getElem? (i := 32) rfl)) (by decide) (by decide)) (g := (mkF m 130 #[.val (.int p0), .val (.int p1), .val (.int p2), .val (.int p3), .val (.int p4), .val (.int p5), .val (.int pc), .val (.int ev1), .val (.int pr1), .val (.int ev2), .val (.int pr2), .val (.int ev3), .val (.int pr3), .val (.ref c1), .val (.ref c2), .val (.ref sa), .val (.ref sb), .unset, .unset, .unset, .unset, .unset, .unset, .unset] [(.int pc), (.ref u), (.ref u)])) rfl (by rw [hml]; rfl) (Steps.refl _) (a := u) (argsL := [(.int pc)]) (rest := [(.ref u)]) (lenOf own_pd1 rfl) rfl (by show 2 * 0 + _ ≤ _; exact Nat.le_of_eq rfl) (hb hby at_130) (fun _ _ => ⟨rfl, e37, (by decide : (((((((0 + 1) + 1) + 1) + 1) + 1) + 1) + 1) + 4 ≤ _), (by decide : (((((((0 + 2) + 2) + 4) + 2) + 4) + 2) + 8) + 96 ≤ _)⟩)
      dsimp only [Pt.U, Pt.locs, Pt.cells, Pt.slots] at X38 l38 y38 z38 st38 hQ38
      subst l38 y38 z38
      obtain ⟨rfl, N38q, K38, tt, kt, tk, kk, t, k, Ft, Fk, Fc, Fp, Fz, ⟨bi, Fi⟩, Vt, Vk, V_t, Ov, gtt, gtk, gt, ne_tt_tk, ne_tt_t, ne_tk_t⟩ := hQ38
      have N0''''''' := Fr.app N0'''''' N38q
      have ne_sa_tt : sa ≠ tt := own_ne2 lt_sa gtt
      have ne_sb_tt : sb ≠ tt := own_ne2 lt_sb gtt
      have ne_u_tt : u ≠ tt := own_ne2 lt_u gtt
      have ge_tt : n0 ≤ tt := Nat.le_trans Z0''''''''''' gtt
      have ne_sa_tk : sa ≠ tk := own_ne2 lt_sa gtk
      have ne_sb_tk : sb ≠ tk := own_ne2 lt_sb gtk
      have ne_u_tk : u ≠ tk := own_ne2 lt_u gtk
      have ge_tk : n0 ≤ tk := Nat.le_trans Z0''''''''''' gtk
      have ne_sa_t : sa ≠ t := own_ne2 lt_sa gt
      have ne_sb_t : sb ≠ t := own_ne2 lt_sb gt
      have ne_u_t : u ≠ t := own_ne2 lt_u gt
      have ge_t : n0 ≤ t := Nat.le_trans Z0''''''''''' gt
      have O := O.keep K38 ((allS ge_u all0))
      have E_sa := E_sa.keep K38
      have E_sb := E_sb.keep K38
      have E_u := E_u.keep K38
      have Z0'''''''''''' := Nat.le_trans Z0''''''''''' K38.1
      refine own_tr (T' := T38) (g' := (mkF m 133 #[.val (.int p0), .val (.int p1), .val (.int p2), .val (.int p3), .val (.int p4), .val (.int p5), .val (.int pc), .val (.int ev1), .val (.int pr1), .val (.int ev2), .val (.int pr2), .val (.int ev3), .val (.int pr3), .val (.ref c1), .val (.ref c2), .val (.ref sa), .val (.ref sb), .unset, .unset, .unset, .unset, .unset, .unset, .unset] [(.ref u)])) st38 ?_
      refine own_st (T' := T38) (g' := (mkF m 135 #[.val (.int p0), .val (.int p1), .val (.int p2), .val (.int p3), .val (.int p4), .val (.int p5), .val (.int pc), .val (.int ev1), .val (.int pr1), .val (.int ev2), .val (.int pr2), .val (.int ev3), .val (.int pr3), .val (.ref c1), .val (.ref c2), .val (.ref sa), .val (.ref sb), .val (.ref u), .unset, .unset, .unset, .unset, .unset, .unset] [])) (fun _ k => XS.astore X38.here hx rfl (hb hby at_133) rfl rfl (l' := #[.val (.int p0), .val (.int p1), .val (.int p2), .val (.int p3), .val (.int p4), .val (.int p5), .val (.int pc), .val (.int ev1), .val (.int pr1), .val (.int ev2), .val (.int pr2), .val (.int ev3), .val (.int pr3), .val (.ref c1), .val (.ref c2), .val (.ref sa), .val (.ref sb), .val (.ref u), .unset, .unset, .unset, .unset, .unset, .unset]) rfl k) ?_
      refine own_st (T' := T38) (g' := (mkF m 137 #[.val (.int p0), .val (.int p1), .val (.int p2), .val (.int p3), .val (.int p4), .val (.int p5), .val (.int pc), .val (.int ev1), .val (.int pr1), .val (.int ev2), .val (.int pr2), .val (.int ev3), .val (.int pr3), .val (.ref c1), .val (.ref c2), .val (.ref sa), .val (.ref sb), .val (.ref u), .unset, .unset, .unset, .unset, .unset, .unset] [(.ref u)])) (fun _ k => XS.aload X38.here hx rfl (hb hby at_135) rfl rfl k) ?_
      refine own_st (T' := T38) (g' := (mkF m 138 #[.val (.int p0), .val (.int p1), .val (.int p2), .val (.int p3), .val (.int p4), .val (.int p5), .val (.int pc), .val (.int ev1), .val (.int pr1), .val (.int ev2), .val (.int pr2), .val (.int ev3), .val (.int pr3), .val (.ref c1), .val (.ref c2), .val (.ref sa), .val (.ref sb), .val (.ref u), .unset, .unset, .unset, .unset, .unset, .unset] [(.long (0 : Int64)), (.ref u)])) (fun _ k => XS.lconst X38.here hx rfl (hb hby at_137) k) ?_
      refine own_st (T' := T38) (g' := (mkF m 139 #[.val (.int p0), .val (.int p1), .val (.int p2), .val (.int p3), .val (.int p4), .val (.int p5), .val (.int pc), .val (.int ev1), .val (.int pr1), .val (.int ev2), .val (.int pr2), .val (.int ev3), .val (.int pr3), .val (.ref c1), .val (.ref c2), .val (.ref sa), .val (.ref sb), .val (.ref u), .unset, .unset, .unset, .unset, .unset, .unset] [(.int (0 : Int32)), (.long (0 : Int64)), (.ref u)])) (fun _ k => XS.iconst X38.here hx rfl (hb hby at_138) k) ?_
      obtain ⟨cq39, kq39, q39a, q39b, q39c⟩ := isOf hZ rfl E_u
      obtain ⟨_, _, ⟨T39, L39, k39, n39⟩, -, X39, ⟨Lc39, hQ39, l39, y39, z39⟩, st39⟩ := X38.virtualBack hx (y := (⟨"com/example/funnelwright/funnelwright/UserEvents", "add", "(JI)I"⟩ : MethodName)) (z := (⟨"com/example/funnelwright/funnelwright/UserEvents", "add", "(JI)I"⟩ : MethodName)) hown (mvT hZ (hw _ (List.mem_of_getElem? (i := 51) rfl))) (mvT hZ (hw _ (List.mem_of_getElem? (i := 52) rfl))) (notFace_of_selects (args := #[]) (mvT hZ (hw _ (List.mem_of_getElem? (i := 54) rfl)))) (mvT hZ (hw _ (List.mem_of_getElem? (i := 54) rfl))) (mvT hZ (hw _ (List.mem_of_getElem? (i := 53) rfl))) (by decide) (backOf (W := 0) (own_uadd l Z a0 hw [] u (0 : Int64) (0 : Int32) tt kt (fun _ => .long 0) tk kk (fun _ => .int 0) (0 : Int32) 0 (.ref bi) (.int pc) (.ref t) T38.heap n0 Z0'''''''''''' Ft Fk Fz E_u Vt Vk Fi Fc Fp ne_u_tt ne_u_tk ne_tt_tk ge_u ge_tt ge_tk (by decide) (by decide) (by decide)) hZ (hw _ (List.mem_of_getElem? (i := 55) rfl)) (hw _ (List.mem_of_getElem? (i := 32) rfl)) (by decide) (by decide)) q39a q39c (g := (mkF m 139 #[.val (.int p0), .val (.int p1), .val (.int p2), .val (.int p3), .val (.int p4), .val (.int p5), .val (.int pc), .val (.int ev1), .val (.int pr1), .val (.int ev2), .val (.int pr2), .val (.int ev3), .val (.int pr3), .val (.ref c1), .val (.ref c2), .val (.ref sa), .val (.ref sb), .val (.ref u), .unset, .unset, .unset, .unset, .unset, .unset] [(.int (0 : Int32)), (.long (0 : Int64)), (.ref u)])) rfl (by rw [hml]; rfl) (Steps.refl _) (argsL := [(.long (0 : Int64)), (.int (0 : Int32))]) (rest := []) (lenOf own_pd2 rfl) rfl (by show 2 * 0 + _ ≤ _; exact Nat.le_of_eq rfl) (hb hby at_139) (fun _ _ => ⟨rfl, rfl, (by decide : ((((((((0 + 1) + 1) + 1) + 1) + 1) + 1) + 1) + 4) + 0 ≤ _), (by decide : ((((((((0 + 2) + 2) + 4) + 2) + 4) + 2) + 8) + 96) + 0 ≤ _)⟩)
      dsimp only [Pt.U, Pt.locs, Pt.cells, Pt.slots] at X39 l39 y39 z39 st39 hQ39
      subst l39 y39 z39
      obtain ⟨rfl, N39q, K39, Ft, Fk, Fz, Fi, Fc, Fp, ⟨g10, Vt⟩, ⟨g20, Vk⟩⟩ := hQ39
      have N0'''''''' := Fr.app N0''''''' N39q
      have O := O.keep K39 ((allS ge_u (allS ge_tt (allS ge_tk all0))))
      have E_sa := E_sa.keep K39
      have E_sb := E_sb.keep K39
      have E_u := E_u.keep K39
      have V_t := V_t.keep K39 (ninS (Ne.symm ne_u_t) (ninS (Ne.symm ne_tt_t) (ninS (Ne.symm ne_tk_t) nin0)))
      have Z0''''''''''''' := Nat.le_trans Z0'''''''''''' K39.1
      refine own_tr (T' := T39) (g' := (mkF m 142 #[.val (.int p0), .val (.int p1), .val (.int p2), .val (.int p3), .val (.int p4), .val (.int p5), .val (.int pc), .val (.int ev1), .val (.int pr1), .val (.int ev2), .val (.int pr2), .val (.int ev3), .val (.int pr3), .val (.ref c1), .val (.ref c2), .val (.ref sa), .val (.ref sb), .val (.ref u), .unset, .unset, .unset, .unset, .unset, .unset] [(.int (0 : Int32))])) st39 ?_
      rw [show ((0 : Int32) + (1 : Int32)) = 1 from rfl] at Fz
      refine own_st (T' := T39) (g' := (mkF m 143 #[.val (.int p0), .val (.int p1), .val (.int p2), .val (.int p3), .val (.int p4), .val (.int p5), .val (.int pc), .val (.int ev1), .val (.int pr1), .val (.int ev2), .val (.int pr2), .val (.int ev3), .val (.int pr3), .val (.ref c1), .val (.ref c2), .val (.ref sa), .val (.ref sb), .val (.ref u), .unset, .unset, .unset, .unset, .unset, .unset] [])) (fun _ k => XS.pop X39.here hx rfl (hb hby at_142) rfl rfl k) ?_
      refine own_st (T' := T39) (g' := (mkF m 145 #[.val (.int p0), .val (.int p1), .val (.int p2), .val (.int p3), .val (.int p4), .val (.int p5), .val (.int pc), .val (.int ev1), .val (.int pr1), .val (.int ev2), .val (.int pr2), .val (.int ev3), .val (.int pr3), .val (.ref c1), .val (.ref c2), .val (.ref sa), .val (.ref sb), .val (.ref u), .unset, .unset, .unset, .unset, .unset, .unset] [(.ref u)])) (fun _ k => XS.aload X39.here hx rfl (hb hby at_143) rfl rfl k) ?_
      refine own_st (T' := T39) (g' := (mkF m 146 #[.val (.int p0), .val (.int p1), .val (.int p2), .val (.int p3), .val (.int p4), .val (.int p5), .val (.int pc), .val (.int ev1), .val (.int pr1), .val (.int ev2), .val (.int pr2), .val (.int ev3), .val (.int pr3), .val (.ref c1), .val (.ref c2), .val (.ref sa), .val (.ref sb), .val (.ref u), .unset, .unset, .unset, .unset, .unset, .unset] [(.long (1 : Int64)), (.ref u)])) (fun _ k => XS.lconst X39.here hx rfl (hb hby at_145) k) ?_
      refine own_st (T' := T39) (g' := (mkF m 147 #[.val (.int p0), .val (.int p1), .val (.int p2), .val (.int p3), .val (.int p4), .val (.int p5), .val (.int pc), .val (.int ev1), .val (.int pr1), .val (.int ev2), .val (.int pr2), .val (.int ev3), .val (.int pr3), .val (.ref c1), .val (.ref c2), .val (.ref sa), .val (.ref sb), .val (.ref u), .unset, .unset, .unset, .unset, .unset, .unset] [(.int (0 : Int32)), (.long (1 : Int64)), (.ref u)])) (fun _ k => XS.iconst X39.here hx rfl (hb hby at_146) k) ?_
      obtain ⟨cq40, kq40, q40a, q40b, q40c⟩ := isOf hZ rfl E_u
      obtain ⟨_, _, ⟨T40, L40, k40, n40⟩, -, X40, ⟨Lc40, hQ40, l40, y40, z40⟩, st40⟩ := X39.virtualBack hx (y := (⟨"com/example/funnelwright/funnelwright/UserEvents", "add", "(JI)I"⟩ : MethodName)) (z := (⟨"com/example/funnelwright/funnelwright/UserEvents", "add", "(JI)I"⟩ : MethodName)) hown (mvT hZ (hw _ (List.mem_of_getElem? (i := 51) rfl))) (mvT hZ (hw _ (List.mem_of_getElem? (i := 52) rfl))) (notFace_of_selects (args := #[]) (mvT hZ (hw _ (List.mem_of_getElem? (i := 54) rfl)))) (mvT hZ (hw _ (List.mem_of_getElem? (i := 54) rfl))) (mvT hZ (hw _ (List.mem_of_getElem? (i := 53) rfl))) (by decide) (backOf (W := 0) (own_uadd l Z a0 hw [] u (1 : Int64) (0 : Int32) tt kt g10 tk kk g20 (1 : Int32) 1 (.ref bi) (.int pc) (.ref t) T39.heap n0 Z0''''''''''''' Ft Fk Fz E_u Vt Vk Fi Fc Fp ne_u_tt ne_u_tk ne_tt_tk ge_u ge_tt ge_tk (by decide) (by decide) (by decide)) hZ (hw _ (List.mem_of_getElem? (i := 55) rfl)) (hw _ (List.mem_of_getElem? (i := 32) rfl)) (by decide) (by decide)) q40a q40c (g := (mkF m 147 #[.val (.int p0), .val (.int p1), .val (.int p2), .val (.int p3), .val (.int p4), .val (.int p5), .val (.int pc), .val (.int ev1), .val (.int pr1), .val (.int ev2), .val (.int pr2), .val (.int ev3), .val (.int pr3), .val (.ref c1), .val (.ref c2), .val (.ref sa), .val (.ref sb), .val (.ref u), .unset, .unset, .unset, .unset, .unset, .unset] [(.int (0 : Int32)), (.long (1 : Int64)), (.ref u)])) rfl (by rw [hml]; rfl) (Steps.refl _) (argsL := [(.long (1 : Int64)), (.int (0 : Int32))]) (rest := []) (lenOf own_pd2 rfl) rfl (by show 2 * 0 + _ ≤ _; exact Nat.le_of_eq rfl) (hb hby at_147) (fun _ _ => ⟨rfl, rfl, (by decide : (((((((((0 + 1) + 1) + 1) + 1) + 1) + 1) + 1) + 4) + 0) + 0 ≤ _), (by decide : (((((((((0 + 2) + 2) + 4) + 2) + 4) + 2) + 8) + 96) + 0) + 0 ≤ _)⟩)
      dsimp only [Pt.U, Pt.locs, Pt.cells, Pt.slots] at X40 l40 y40 z40 st40 hQ40
      subst l40 y40 z40
      obtain ⟨rfl, N40q, K40, Ft, Fk, Fz, Fi, Fc, Fp, ⟨g11, Vt⟩, ⟨g21, Vk⟩⟩ := hQ40
      have N0''''''''' := Fr.app N0'''''''' N40q
      have O := O.keep K40 ((allS ge_u (allS ge_tt (allS ge_tk all0))))
      have E_sa := E_sa.keep K40
      have E_sb := E_sb.keep K40
      have E_u := E_u.keep K40
      have V_t := V_t.keep K40 (ninS (Ne.symm ne_u_t) (ninS (Ne.symm ne_tt_t) (ninS (Ne.symm ne_tk_t) nin0)))
      have Z0'''''''''''''' := Nat.le_trans Z0''''''''''''' K40.1
      refine own_tr (T' := T40) (g' := (mkF m 150 #[.val (.int p0), .val (.int p1), .val (.int p2), .val (.int p3), .val (.int p4), .val (.int p5), .val (.int pc), .val (.int ev1), .val (.int pr1), .val (.int ev2), .val (.int pr2), .val (.int ev3), .val (.int pr3), .val (.ref c1), .val (.ref c2), .val (.ref sa), .val (.ref sb), .val (.ref u), .unset, .unset, .unset, .unset, .unset, .unset] [(.int (1 : Int32))])) st40 ?_
      refine own_st (T' := T40) (g' := (mkF m 151 #[.val (.int p0), .val (.int p1), .val (.int p2), .val (.int p3), .val (.int p4), .val (.int p5), .val (.int pc), .val (.int ev1), .val (.int pr1), .val (.int ev2), .val (.int pr2), .val (.int ev3), .val (.int pr3), .val (.ref c1), .val (.ref c2), .val (.ref sa), .val (.ref sb), .val (.ref u), .unset, .unset, .unset, .unset, .unset, .unset] [])) (fun _ k => XS.pop X40.here hx rfl (hb hby at_150) rfl rfl k) ?_
      refine own_st (T' := T40) (g' := (mkF m 153 #[.val (.int p0), .val (.int p1), .val (.int p2), .val (.int p3), .val (.int p4), .val (.int p5), .val (.int pc), .val (.int ev1), .val (.int pr1), .val (.int ev2), .val (.int pr2), .val (.int ev3), .val (.int pr3), .val (.ref c1), .val (.ref c2), .val (.ref sa), .val (.ref sb), .val (.ref u), .unset, .unset, .unset, .unset, .unset, .unset] [(.ref u)])) (fun _ k => XS.aload X40.here hx rfl (hb hby at_151) rfl rfl k) ?_
      refine own_st (T' := T40) (g' := (mkF m 155 #[.val (.int p0), .val (.int p1), .val (.int p2), .val (.int p3), .val (.int p4), .val (.int p5), .val (.int pc), .val (.int ev1), .val (.int pr1), .val (.int ev2), .val (.int pr2), .val (.int ev3), .val (.int pr3), .val (.ref c1), .val (.ref c2), .val (.ref sa), .val (.ref sb), .val (.ref u), .unset, .unset, .unset, .unset, .unset, .unset] [(.int ev1), (.ref u)])) (fun _ k => XS.iload X40.here hx rfl (hb hby at_153) rfl k) ?_
      refine own_st (T' := T40) (g' := (mkF m 157 #[.val (.int p0), .val (.int p1), .val (.int p2), .val (.int p3), .val (.int p4), .val (.int p5), .val (.int pc), .val (.int ev1), .val (.int pr1), .val (.int ev2), .val (.int pr2), .val (.int ev3), .val (.int pr3), .val (.ref c1), .val (.ref c2), .val (.ref sa), .val (.ref sb), .val (.ref u), .unset, .unset, .unset, .unset, .unset, .unset] [(.int pr1), (.int ev1), (.ref u)])) (fun _ k => XS.iload X40.here hx rfl (hb hby at_155) rfl k) ?_
      refine own_st (T' := T40) (g' := (mkF m 159 #[.val (.int p0), .val (.int p1), .val (.int p2), .val (.int p3), .val (.int p4), .val (.int p5), .val (.int pc), .val (.int ev1), .val (.int pr1), .val (.int ev2), .val (.int pr2), .val (.int ev3), .val (.int pr3), .val (.ref c1), .val (.ref c2), .val (.ref sa), .val (.ref sb), .val (.ref u), .unset, .unset, .unset, .unset, .unset, .unset] [(.ref sa), (.int pr1), (.int ev1), (.ref u)])) (fun _ k => XS.aload X40.here hx rfl (hb hby at_157) rfl rfl k) ?_
      obtain ⟨cq41, kq41, q41a, q41b, q41c⟩ := isOf hZ rfl E_u
      obtain ⟨_, _, ⟨T41, L41, k41, n41⟩, -, X41, ⟨Lc41, hQ41, l41, y41, z41⟩, st41⟩ := X40.virtualBack hx (y := (⟨"com/example/funnelwright/funnelwright/UserEvents", "setProperty", "(IILjava/lang/String;)V"⟩ : MethodName)) (z := (⟨"com/example/funnelwright/funnelwright/UserEvents", "setProperty", "(IILjava/lang/String;)V"⟩ : MethodName)) hown (mvT hZ (hw _ (List.mem_of_getElem? (i := 58) rfl))) (mvT hZ (hw _ (List.mem_of_getElem? (i := 59) rfl))) (notFace_of_selects (args := #[]) (mvT hZ (hw _ (List.mem_of_getElem? (i := 61) rfl)))) (mvT hZ (hw _ (List.mem_of_getElem? (i := 61) rfl))) (mvT hZ (hw _ (List.mem_of_getElem? (i := 60) rfl))) (by decide) (backOf (W := 0) (own_set l Z a0 hw [] u ev1 pr1 sa t pc k N (fun _ => .null) i1 T40.heap n0 Z0'''''''''''''' Fp Fc V_t Ov E_sa ne_u_t ge_t hj1 l1) hZ (hw _ (List.mem_of_getElem? (i := 62) rfl)) (hw _ (List.mem_of_getElem? (i := 32) rfl)) (by decide) (by decide)) q41a q41c (g := (mkF m 159 #[.val (.int p0), .val (.int p1), .val (.int p2), .val (.int p3), .val (.int p4), .val (.int p5), .val (.int pc), .val (.int ev1), .val (.int pr1), .val (.int ev2), .val (.int pr2), .val (.int ev3), .val (.int pr3), .val (.ref c1), .val (.ref c2), .val (.ref sa), .val (.ref sb), .val (.ref u), .unset, .unset, .unset, .unset, .unset, .unset] [(.ref sa), (.int pr1), (.int ev1), (.ref u)])) rfl (by rw [hml]; rfl) (Steps.refl _) (argsL := [(.int ev1), (.int pr1), (.ref sa)]) (rest := []) (lenOf own_pd3 rfl) rfl (by show 2 * 0 + _ ≤ _; exact Nat.le_of_eq rfl) (hb hby at_159) (fun _ _ => ⟨rfl, rfl, (by decide : ((((((((((0 + 1) + 1) + 1) + 1) + 1) + 1) + 1) + 4) + 0) + 0) + 0 ≤ _), (by decide : ((((((((((0 + 2) + 2) + 4) + 2) + 4) + 2) + 8) + 96) + 0) + 0) + 0 ≤ _)⟩)
      dsimp only [Pt.U, Pt.locs, Pt.cells, Pt.slots] at X41 l41 y41 z41 st41 hQ41
      subst l41 y41 z41
      obtain ⟨rfl, N41q, K41, V_t2⟩ := hQ41
      have N0'''''''''' := Fr.app N0''''''''' N41q
      have O := O.keep K41 ((allS ge_t all0))
      have E_sa := E_sa.keep K41
      have E_sb := E_sb.keep K41
      have E_u := E_u.keep K41
      have Fc := Fc.keep K41 (ninS ne_u_t nin0)
      have Fp := Fp.keep K41 (ninS ne_u_t nin0)
      have Z0''''''''''''''' := Nat.le_trans Z0'''''''''''''' K41.1
      refine own_tr (T' := T41) (g' := (mkF m 162 #[.val (.int p0), .val (.int p1), .val (.int p2), .val (.int p3), .val (.int p4), .val (.int p5), .val (.int pc), .val (.int ev1), .val (.int pr1), .val (.int ev2), .val (.int pr2), .val (.int ev3), .val (.int pr3), .val (.ref c1), .val (.ref c2), .val (.ref sa), .val (.ref sb), .val (.ref u), .unset, .unset, .unset, .unset, .unset, .unset] [])) st41 ?_
      have V_t := V_t2
      refine own_st (T' := T41) (g' := (mkF m 164 #[.val (.int p0), .val (.int p1), .val (.int p2), .val (.int p3), .val (.int p4), .val (.int p5), .val (.int pc), .val (.int ev1), .val (.int pr1), .val (.int ev2), .val (.int pr2), .val (.int ev3), .val (.int pr3), .val (.ref c1), .val (.ref c2), .val (.ref sa), .val (.ref sb), .val (.ref u), .unset, .unset, .unset, .unset, .unset, .unset] [(.ref u)])) (fun _ k => XS.aload X41.here hx rfl (hb hby at_162) rfl rfl k) ?_
      refine own_st (T' := T41) (g' := (mkF m 166 #[.val (.int p0), .val (.int p1), .val (.int p2), .val (.int p3), .val (.int p4), .val (.int p5), .val (.int pc), .val (.int ev1), .val (.int pr1), .val (.int ev2), .val (.int pr2), .val (.int ev3), .val (.int pr3), .val (.ref c1), .val (.ref c2), .val (.ref sa), .val (.ref sb), .val (.ref u), .unset, .unset, .unset, .unset, .unset, .unset] [(.int ev2), (.ref u)])) (fun _ k => XS.iload X41.here hx rfl (hb hby at_164) rfl k) ?_
      refine own_st (T' := T41) (g' := (mkF m 168 #[.val (.int p0), .val (.int p1), .val (.int p2), .val (.int p3), .val (.int p4), .val (.int p5), .val (.int pc), .val (.int ev1), .val (.int pr1), .val (.int ev2), .val (.int pr2), .val (.int ev3), .val (.int pr3), .val (.ref c1), .val (.ref c2), .val (.ref sa), .val (.ref sb), .val (.ref u), .unset, .unset, .unset, .unset, .unset, .unset] [(.int pr2), (.int ev2), (.ref u)])) (fun _ k => XS.iload X41.here hx rfl (hb hby at_166) rfl k) ?_
      refine own_st (T' := T41) (g' := (mkF m 170 #[.val (.int p0), .val (.int p1), .val (.int p2), .val (.int p3), .val (.int p4), .val (.int p5), .val (.int pc), .val (.int ev1), .val (.int pr1), .val (.int ev2), .val (.int pr2), .val (.int ev3), .val (.int pr3), .val (.ref c1), .val (.ref c2), .val (.ref sa), .val (.ref sb), .val (.ref u), .unset, .unset, .unset, .unset, .unset, .unset] [(.ref sb), (.int pr2), (.int ev2), (.ref u)])) (fun _ k => XS.aload X41.here hx rfl (hb hby at_168) rfl rfl k) ?_
      obtain ⟨cq42, kq42, q42a, q42b, q42c⟩ := isOf hZ rfl E_u
      obtain ⟨_, _, ⟨T42, L42, k42, n42⟩, -, X42, ⟨Lc42, hQ42, l42, y42, z42⟩, st42⟩ := X41.virtualBack hx (y := (⟨"com/example/funnelwright/funnelwright/UserEvents", "setProperty", "(IILjava/lang/String;)V"⟩ : MethodName)) (z := (⟨"com/example/funnelwright/funnelwright/UserEvents", "setProperty", "(IILjava/lang/String;)V"⟩ : MethodName)) hown (mvT hZ (hw _ (List.mem_of_getElem? (i := 58) rfl))) (mvT hZ (hw _ (List.mem_of_getElem? (i := 59) rfl))) (notFace_of_selects (args := #[]) (mvT hZ (hw _ (List.mem_of_getElem? (i := 61) rfl)))) (mvT hZ (hw _ (List.mem_of_getElem? (i := 61) rfl))) (mvT hZ (hw _ (List.mem_of_getElem? (i := 60) rfl))) (by decide) (backOf (W := 0) (own_set l Z a0 hw [] u ev2 pr2 sb t pc k N (fun q => if q = i1 then (.ref sa) else (fun _ => .null) q) i2 T41.heap n0 Z0''''''''''''''' Fp Fc V_t Ov E_sb ne_u_t ge_t hj2 l2) hZ (hw _ (List.mem_of_getElem? (i := 62) rfl)) (hw _ (List.mem_of_getElem? (i := 32) rfl)) (by decide) (by decide)) q42a q42c (g := (mkF m 170 #[.val (.int p0), .val (.int p1), .val (.int p2), .val (.int p3), .val (.int p4), .val (.int p5), .val (.int pc), .val (.int ev1), .val (.int pr1), .val (.int ev2), .val (.int pr2), .val (.int ev3), .val (.int pr3), .val (.ref c1), .val (.ref c2), .val (.ref sa), .val (.ref sb), .val (.ref u), .unset, .unset, .unset, .unset, .unset, .unset] [(.ref sb), (.int pr2), (.int ev2), (.ref u)])) rfl (by rw [hml]; rfl) (Steps.refl _) (argsL := [(.int ev2), (.int pr2), (.ref sb)]) (rest := []) (lenOf own_pd3 rfl) rfl (by show 2 * 0 + _ ≤ _; exact Nat.le_of_eq rfl) (hb hby at_170) (fun _ _ => ⟨rfl, rfl, (by decide : (((((((((((0 + 1) + 1) + 1) + 1) + 1) + 1) + 1) + 4) + 0) + 0) + 0) + 0 ≤ _), (by decide : (((((((((((0 + 2) + 2) + 4) + 2) + 4) + 2) + 8) + 96) + 0) + 0) + 0) + 0 ≤ _)⟩)
      dsimp only [Pt.U, Pt.locs, Pt.cells, Pt.slots] at X42 l42 y42 z42 st42 hQ42
      subst l42 y42 z42
      obtain ⟨rfl, N42q, K42, V_t2⟩ := hQ42
      have N0''''''''''' := Fr.app N0'''''''''' N42q
      have O := O.keep K42 ((allS ge_t all0))
      have E_sa := E_sa.keep K42
      have E_sb := E_sb.keep K42
      have E_u := E_u.keep K42
      have Fc := Fc.keep K42 (ninS ne_u_t nin0)
      have Fp := Fp.keep K42 (ninS ne_u_t nin0)
      have Z0'''''''''''''''' := Nat.le_trans Z0''''''''''''''' K42.1
      refine own_tr (T' := T42) (g' := (mkF m 173 #[.val (.int p0), .val (.int p1), .val (.int p2), .val (.int p3), .val (.int p4), .val (.int p5), .val (.int pc), .val (.int ev1), .val (.int pr1), .val (.int ev2), .val (.int pr2), .val (.int ev3), .val (.int pr3), .val (.ref c1), .val (.ref c2), .val (.ref sa), .val (.ref sb), .val (.ref u), .unset, .unset, .unset, .unset, .unset, .unset] [])) st42 ?_
      have V_t := V_t2
      obtain ⟨e1, he1', hR1⟩ : ∃ e1 : Value, e1 = (if i1 = i2 then (.ref sb) else (.ref sa)) ∧ e1.isRef = true := ⟨_, rfl, by split <;> rfl⟩
      obtain ⟨e3, he3', hR3⟩ : ∃ e3 : Value, e3 = (if i3 = i2 then (.ref sb) else if i3 = i1 then (.ref sa) else .null) ∧ e3.isRef = true := ⟨_, rfl, by split; rfl; split <;> rfl⟩
      refine own_st (T' := T42) (g' := (mkF m 175 #[.val (.int p0), .val (.int p1), .val (.int p2), .val (.int p3), .val (.int p4), .val (.int p5), .val (.int pc), .val (.int ev1), .val (.int pr1), .val (.int ev2), .val (.int pr2), .val (.int ev3), .val (.int pr3), .val (.ref c1), .val (.ref c2), .val (.ref sa), .val (.ref sb), .val (.ref u), .unset, .unset, .unset, .unset, .unset, .unset] [(.ref u)])) (fun _ k => XS.aload X42.here hx rfl (hb hby at_173) rfl rfl k) ?_
      refine own_st (T' := T42) (g' := (mkF m 177 #[.val (.int p0), .val (.int p1), .val (.int p2), .val (.int p3), .val (.int p4), .val (.int p5), .val (.int pc), .val (.int ev1), .val (.int pr1), .val (.int ev2), .val (.int pr2), .val (.int ev3), .val (.int pr3), .val (.ref c1), .val (.ref c2), .val (.ref sa), .val (.ref sb), .val (.ref u), .unset, .unset, .unset, .unset, .unset, .unset] [(.int ev1), (.ref u)])) (fun _ k => XS.iload X42.here hx rfl (hb hby at_175) rfl k) ?_
      refine own_st (T' := T42) (g' := (mkF m 179 #[.val (.int p0), .val (.int p1), .val (.int p2), .val (.int p3), .val (.int p4), .val (.int p5), .val (.int pc), .val (.int ev1), .val (.int pr1), .val (.int ev2), .val (.int pr2), .val (.int ev3), .val (.int pr3), .val (.ref c1), .val (.ref c2), .val (.ref sa), .val (.ref sb), .val (.ref u), .unset, .unset, .unset, .unset, .unset, .unset] [(.int pr1), (.int ev1), (.ref u)])) (fun _ k => XS.iload X42.here hx rfl (hb hby at_177) rfl k) ?_
      obtain ⟨cq43, kq43, q43a, q43b, q43c⟩ := isOf hZ rfl E_u
      obtain ⟨_, _, ⟨T43, L43, k43, n43⟩, -, X43, ⟨Lc43, hQ43, l43, y43, z43⟩, st43⟩ := X42.virtualBack hx (y := (⟨"com/example/funnelwright/funnelwright/UserEvents", "property", "(II)Ljava/lang/String;"⟩ : MethodName)) (z := (⟨"com/example/funnelwright/funnelwright/UserEvents", "property", "(II)Ljava/lang/String;"⟩ : MethodName)) hown (mvT hZ (hw _ (List.mem_of_getElem? (i := 63) rfl))) (mvT hZ (hw _ (List.mem_of_getElem? (i := 64) rfl))) (notFace_of_selects (args := #[]) (mvT hZ (hw _ (List.mem_of_getElem? (i := 66) rfl)))) (mvT hZ (hw _ (List.mem_of_getElem? (i := 66) rfl))) (mvT hZ (hw _ (List.mem_of_getElem? (i := 65) rfl))) (by decide) (backOf (W := 0) (own_prop l Z a0 hw [] u ev1 pr1 t pc k N (fun q => if q = i2 then (.ref sb) else (fun q => if q = i1 then (.ref sa) else (fun _ => .null) q) q) i1 e1 T42.heap n0 Z0'''''''''''''''' Fp Fc V_t hj1 l1 (by rw [he1']; simp) hR1) hZ (hw _ (List.mem_of_getElem? (i := 67) rfl)) (hw _ (List.mem_of_getElem? (i := 32) rfl)) (by decide) (by decide)) q43a q43c (g := (mkF m 179 #[.val (.int p0), .val (.int p1), .val (.int p2), .val (.int p3), .val (.int p4), .val (.int p5), .val (.int pc), .val (.int ev1), .val (.int pr1), .val (.int ev2), .val (.int pr2), .val (.int ev3), .val (.int pr3), .val (.ref c1), .val (.ref c2), .val (.ref sa), .val (.ref sb), .val (.ref u), .unset, .unset, .unset, .unset, .unset, .unset] [(.int pr1), (.int ev1), (.ref u)])) rfl (by rw [hml]; rfl) (Steps.refl _) (argsL := [(.int ev1), (.int pr1)]) (rest := []) (lenOf own_pd4 rfl) rfl (by show 2 * 0 + _ ≤ _; exact Nat.le_of_eq rfl) (hb hby at_179) (fun _ _ => ⟨rfl, rfl, (by decide : ((((((((((((0 + 1) + 1) + 1) + 1) + 1) + 1) + 1) + 4) + 0) + 0) + 0) + 0) + 0 ≤ _), (by decide : ((((((((((((0 + 2) + 2) + 4) + 2) + 4) + 2) + 8) + 96) + 0) + 0) + 0) + 0) + 0 ≤ _)⟩)
      dsimp only [Pt.U, Pt.locs, Pt.cells, Pt.slots] at X43 l43 y43 z43 st43 hQ43
      subst l43 y43 z43
      obtain ⟨rfl, N43q, e43⟩ := hQ43
      have N0'''''''''''' := Fr.app N0''''''''''' N43q
      refine own_tr (T' := T43) (g' := (mkF m 182 #[.val (.int p0), .val (.int p1), .val (.int p2), .val (.int p3), .val (.int p4), .val (.int p5), .val (.int pc), .val (.int ev1), .val (.int pr1), .val (.int ev2), .val (.int pr2), .val (.int ev3), .val (.int pr3), .val (.ref c1), .val (.ref c2), .val (.ref sa), .val (.ref sb), .val (.ref u), .unset, .unset, .unset, .unset, .unset, .unset] [e1])) st43 ?_
      refine own_st (T' := T43) (g' := (mkF m 184 #[.val (.int p0), .val (.int p1), .val (.int p2), .val (.int p3), .val (.int p4), .val (.int p5), .val (.int pc), .val (.int ev1), .val (.int pr1), .val (.int ev2), .val (.int pr2), .val (.int ev3), .val (.int pr3), .val (.ref c1), .val (.ref c2), .val (.ref sa), .val (.ref sb), .val (.ref u), .val e1, .unset, .unset, .unset, .unset, .unset] [])) (fun _ k => XS.astore X43.here hx rfl (hb hby at_182) rfl hR1 (l' := #[.val (.int p0), .val (.int p1), .val (.int p2), .val (.int p3), .val (.int p4), .val (.int p5), .val (.int pc), .val (.int ev1), .val (.int pr1), .val (.int ev2), .val (.int pr2), .val (.int ev3), .val (.int pr3), .val (.ref c1), .val (.ref c2), .val (.ref sa), .val (.ref sb), .val (.ref u), .val e1, .unset, .unset, .unset, .unset, .unset]) (own_store1 hR1 rfl (Or.inl rfl)) k) ?_
      refine own_st (T' := T43) (g' := (mkF m 186 #[.val (.int p0), .val (.int p1), .val (.int p2), .val (.int p3), .val (.int p4), .val (.int p5), .val (.int pc), .val (.int ev1), .val (.int pr1), .val (.int ev2), .val (.int pr2), .val (.int ev3), .val (.int pr3), .val (.ref c1), .val (.ref c2), .val (.ref sa), .val (.ref sb), .val (.ref u), .val e1, .unset, .unset, .unset, .unset, .unset] [(.ref u)])) (fun _ k => XS.aload X43.here hx rfl (hb hby at_184) rfl rfl k) ?_
      refine own_st (T' := T43) (g' := (mkF m 188 #[.val (.int p0), .val (.int p1), .val (.int p2), .val (.int p3), .val (.int p4), .val (.int p5), .val (.int pc), .val (.int ev1), .val (.int pr1), .val (.int ev2), .val (.int pr2), .val (.int ev3), .val (.int pr3), .val (.ref c1), .val (.ref c2), .val (.ref sa), .val (.ref sb), .val (.ref u), .val e1, .unset, .unset, .unset, .unset, .unset] [(.int ev2), (.ref u)])) (fun _ k => XS.iload X43.here hx rfl (hb hby at_186) rfl k) ?_
      refine own_st (T' := T43) (g' := (mkF m 190 #[.val (.int p0), .val (.int p1), .val (.int p2), .val (.int p3), .val (.int p4), .val (.int p5), .val (.int pc), .val (.int ev1), .val (.int pr1), .val (.int ev2), .val (.int pr2), .val (.int ev3), .val (.int pr3), .val (.ref c1), .val (.ref c2), .val (.ref sa), .val (.ref sb), .val (.ref u), .val e1, .unset, .unset, .unset, .unset, .unset] [(.int pr2), (.int ev2), (.ref u)])) (fun _ k => XS.iload X43.here hx rfl (hb hby at_188) rfl k) ?_
      obtain ⟨cq44, kq44, q44a, q44b, q44c⟩ := isOf hZ e43 E_u
      obtain ⟨_, _, ⟨T44, L44, k44, n44⟩, -, X44, ⟨Lc44, hQ44, l44, y44, z44⟩, st44⟩ := X43.virtualBack hx (y := (⟨"com/example/funnelwright/funnelwright/UserEvents", "property", "(II)Ljava/lang/String;"⟩ : MethodName)) (z := (⟨"com/example/funnelwright/funnelwright/UserEvents", "property", "(II)Ljava/lang/String;"⟩ : MethodName)) hown (mvT hZ (hw _ (List.mem_of_getElem? (i := 63) rfl))) (mvT hZ (hw _ (List.mem_of_getElem? (i := 64) rfl))) (notFace_of_selects (args := #[]) (mvT hZ (hw _ (List.mem_of_getElem? (i := 66) rfl)))) (mvT hZ (hw _ (List.mem_of_getElem? (i := 66) rfl))) (mvT hZ (hw _ (List.mem_of_getElem? (i := 65) rfl))) (by decide) (backOf (W := 0) (own_prop l Z a0 hw [] u ev2 pr2 t pc k N (fun q => if q = i2 then (.ref sb) else (fun q => if q = i1 then (.ref sa) else (fun _ => .null) q) q) i2 (.ref sb) T42.heap n0 Z0'''''''''''''''' Fp Fc V_t hj2 l2 (by simp) rfl) hZ (hw _ (List.mem_of_getElem? (i := 67) rfl)) (hw _ (List.mem_of_getElem? (i := 32) rfl)) (by decide) (by decide)) q44a q44c (g := (mkF m 190 #[.val (.int p0), .val (.int p1), .val (.int p2), .val (.int p3), .val (.int p4), .val (.int p5), .val (.int pc), .val (.int ev1), .val (.int pr1), .val (.int ev2), .val (.int pr2), .val (.int ev3), .val (.int pr3), .val (.ref c1), .val (.ref c2), .val (.ref sa), .val (.ref sb), .val (.ref u), .val e1, .unset, .unset, .unset, .unset, .unset] [(.int pr2), (.int ev2), (.ref u)])) rfl (by rw [hml]; rfl) (Steps.refl _) (argsL := [(.int ev2), (.int pr2)]) (rest := []) (lenOf own_pd4 rfl) rfl (by show 2 * 0 + _ ≤ _; exact Nat.le_of_eq rfl) (hb hby at_190) (fun _ _ => ⟨rfl, e43, (by decide : (((((((((((((0 + 1) + 1) + 1) + 1) + 1) + 1) + 1) + 4) + 0) + 0) + 0) + 0) + 0) + 0 ≤ _), (by decide : (((((((((((((0 + 2) + 2) + 4) + 2) + 4) + 2) + 8) + 96) + 0) + 0) + 0) + 0) + 0) + 0 ≤ _)⟩)
      dsimp only [Pt.U, Pt.locs, Pt.cells, Pt.slots] at X44 l44 y44 z44 st44 hQ44
      subst l44 y44 z44
      obtain ⟨rfl, N44q, e44⟩ := hQ44
      have N0''''''''''''' := Fr.app N0'''''''''''' N44q
      refine own_tr (T' := T44) (g' := (mkF m 193 #[.val (.int p0), .val (.int p1), .val (.int p2), .val (.int p3), .val (.int p4), .val (.int p5), .val (.int pc), .val (.int ev1), .val (.int pr1), .val (.int ev2), .val (.int pr2), .val (.int ev3), .val (.int pr3), .val (.ref c1), .val (.ref c2), .val (.ref sa), .val (.ref sb), .val (.ref u), .val e1, .unset, .unset, .unset, .unset, .unset] [(.ref sb)])) st44 ?_
      refine own_st (T' := T44) (g' := (mkF m 195 #[.val (.int p0), .val (.int p1), .val (.int p2), .val (.int p3), .val (.int p4), .val (.int p5), .val (.int pc), .val (.int ev1), .val (.int pr1), .val (.int ev2), .val (.int pr2), .val (.int ev3), .val (.int pr3), .val (.ref c1), .val (.ref c2), .val (.ref sa), .val (.ref sb), .val (.ref u), .val e1, .val (.ref sb), .unset, .unset, .unset, .unset] [])) (fun _ k => XS.astore X44.here hx rfl (hb hby at_193) rfl rfl (l' := #[.val (.int p0), .val (.int p1), .val (.int p2), .val (.int p3), .val (.int p4), .val (.int p5), .val (.int pc), .val (.int ev1), .val (.int pr1), .val (.int ev2), .val (.int pr2), .val (.int ev3), .val (.int pr3), .val (.ref c1), .val (.ref c2), .val (.ref sa), .val (.ref sb), .val (.ref u), .val e1, .val (.ref sb), .unset, .unset, .unset, .unset]) rfl k) ?_
      refine own_st (T' := T44) (g' := (mkF m 197 #[.val (.int p0), .val (.int p1), .val (.int p2), .val (.int p3), .val (.int p4), .val (.int p5), .val (.int pc), .val (.int ev1), .val (.int pr1), .val (.int ev2), .val (.int pr2), .val (.int ev3), .val (.int pr3), .val (.ref c1), .val (.ref c2), .val (.ref sa), .val (.ref sb), .val (.ref u), .val e1, .val (.ref sb), .unset, .unset, .unset, .unset] [(.ref u)])) (fun _ k => XS.aload X44.here hx rfl (hb hby at_195) rfl rfl k) ?_
      refine own_st (T' := T44) (g' := (mkF m 199 #[.val (.int p0), .val (.int p1), .val (.int p2), .val (.int p3), .val (.int p4), .val (.int p5), .val (.int pc), .val (.int ev1), .val (.int pr1), .val (.int ev2), .val (.int pr2), .val (.int ev3), .val (.int pr3), .val (.ref c1), .val (.ref c2), .val (.ref sa), .val (.ref sb), .val (.ref u), .val e1, .val (.ref sb), .unset, .unset, .unset, .unset] [(.int ev3), (.ref u)])) (fun _ k => XS.iload X44.here hx rfl (hb hby at_197) rfl k) ?_
      refine own_st (T' := T44) (g' := (mkF m 201 #[.val (.int p0), .val (.int p1), .val (.int p2), .val (.int p3), .val (.int p4), .val (.int p5), .val (.int pc), .val (.int ev1), .val (.int pr1), .val (.int ev2), .val (.int pr2), .val (.int ev3), .val (.int pr3), .val (.ref c1), .val (.ref c2), .val (.ref sa), .val (.ref sb), .val (.ref u), .val e1, .val (.ref sb), .unset, .unset, .unset, .unset] [(.int pr3), (.int ev3), (.ref u)])) (fun _ k => XS.iload X44.here hx rfl (hb hby at_199) rfl k) ?_
      obtain ⟨cq45, kq45, q45a, q45b, q45c⟩ := isOf hZ e44 E_u
      obtain ⟨_, _, ⟨T45, L45, k45, n45⟩, -, X45, ⟨Lc45, hQ45, l45, y45, z45⟩, st45⟩ := X44.virtualBack hx (y := (⟨"com/example/funnelwright/funnelwright/UserEvents", "property", "(II)Ljava/lang/String;"⟩ : MethodName)) (z := (⟨"com/example/funnelwright/funnelwright/UserEvents", "property", "(II)Ljava/lang/String;"⟩ : MethodName)) hown (mvT hZ (hw _ (List.mem_of_getElem? (i := 63) rfl))) (mvT hZ (hw _ (List.mem_of_getElem? (i := 64) rfl))) (notFace_of_selects (args := #[]) (mvT hZ (hw _ (List.mem_of_getElem? (i := 66) rfl)))) (mvT hZ (hw _ (List.mem_of_getElem? (i := 66) rfl))) (mvT hZ (hw _ (List.mem_of_getElem? (i := 65) rfl))) (by decide) (backOf (W := 0) (own_prop l Z a0 hw [] u ev3 pr3 t pc k N (fun q => if q = i2 then (.ref sb) else (fun q => if q = i1 then (.ref sa) else (fun _ => .null) q) q) i3 e3 T42.heap n0 Z0'''''''''''''''' Fp Fc V_t hj3 l3 (by rw [he3']) hR3) hZ (hw _ (List.mem_of_getElem? (i := 67) rfl)) (hw _ (List.mem_of_getElem? (i := 32) rfl)) (by decide) (by decide)) q45a q45c (g := (mkF m 201 #[.val (.int p0), .val (.int p1), .val (.int p2), .val (.int p3), .val (.int p4), .val (.int p5), .val (.int pc), .val (.int ev1), .val (.int pr1), .val (.int ev2), .val (.int pr2), .val (.int ev3), .val (.int pr3), .val (.ref c1), .val (.ref c2), .val (.ref sa), .val (.ref sb), .val (.ref u), .val e1, .val (.ref sb), .unset, .unset, .unset, .unset] [(.int pr3), (.int ev3), (.ref u)])) rfl (by rw [hml]; rfl) (Steps.refl _) (argsL := [(.int ev3), (.int pr3)]) (rest := []) (lenOf own_pd4 rfl) rfl (by show 2 * 0 + _ ≤ _; exact Nat.le_of_eq rfl) (hb hby at_201) (fun _ _ => ⟨rfl, e44, (by decide : ((((((((((((((0 + 1) + 1) + 1) + 1) + 1) + 1) + 1) + 4) + 0) + 0) + 0) + 0) + 0) + 0) + 0 ≤ _), (by decide : ((((((((((((((0 + 2) + 2) + 4) + 2) + 4) + 2) + 8) + 96) + 0) + 0) + 0) + 0) + 0) + 0) + 0 ≤ _)⟩)
      dsimp only [Pt.U, Pt.locs, Pt.cells, Pt.slots] at X45 l45 y45 z45 st45 hQ45
      subst l45 y45 z45
      obtain ⟨rfl, N45q, e45⟩ := hQ45
      have N0'''''''''''''' := Fr.app N0''''''''''''' N45q
      refine own_tr (T' := T45) (g' := (mkF m 204 #[.val (.int p0), .val (.int p1), .val (.int p2), .val (.int p3), .val (.int p4), .val (.int p5), .val (.int pc), .val (.int ev1), .val (.int pr1), .val (.int ev2), .val (.int pr2), .val (.int ev3), .val (.int pr3), .val (.ref c1), .val (.ref c2), .val (.ref sa), .val (.ref sb), .val (.ref u), .val e1, .val (.ref sb), .unset, .unset, .unset, .unset] [e3])) st45 ?_
      refine own_st (T' := T45) (g' := (mkF m 206 #[.val (.int p0), .val (.int p1), .val (.int p2), .val (.int p3), .val (.int p4), .val (.int p5), .val (.int pc), .val (.int ev1), .val (.int pr1), .val (.int ev2), .val (.int pr2), .val (.int ev3), .val (.int pr3), .val (.ref c1), .val (.ref c2), .val (.ref sa), .val (.ref sb), .val (.ref u), .val e1, .val (.ref sb), .val e3, .unset, .unset, .unset] [])) (fun _ k => XS.astore X45.here hx rfl (hb hby at_204) rfl hR3 (l' := #[.val (.int p0), .val (.int p1), .val (.int p2), .val (.int p3), .val (.int p4), .val (.int p5), .val (.int pc), .val (.int ev1), .val (.int pr1), .val (.int ev2), .val (.int pr2), .val (.int ev3), .val (.int pr3), .val (.ref c1), .val (.ref c2), .val (.ref sa), .val (.ref sb), .val (.ref u), .val e1, .val (.ref sb), .val e3, .unset, .unset, .unset]) (own_store1 hR3 rfl (Or.inl rfl)) k) ?_
      refine own_st (T' := T45) (g' := (mkF m 208 #[.val (.int p0), .val (.int p1), .val (.int p2), .val (.int p3), .val (.int p4), .val (.int p5), .val (.int pc), .val (.int ev1), .val (.int pr1), .val (.int ev2), .val (.int pr2), .val (.int ev3), .val (.int pr3), .val (.ref c1), .val (.ref c2), .val (.ref sa), .val (.ref sb), .val (.ref u), .val e1, .val (.ref sb), .val e3, .unset, .unset, .unset] [(.int ev1)])) (fun _ k => XS.iload X45.here hx rfl (hb hby at_206) rfl k) ?_
      refine own_st (T' := T45) (g' := (mkF m 210 #[.val (.int p0), .val (.int p1), .val (.int p2), .val (.int p3), .val (.int p4), .val (.int p5), .val (.int pc), .val (.int ev1), .val (.int pr1), .val (.int ev2), .val (.int pr2), .val (.int ev3), .val (.int pr3), .val (.ref c1), .val (.ref c2), .val (.ref sa), .val (.ref sb), .val (.ref u), .val e1, .val (.ref sb), .val e3, .unset, .unset, .unset] [(.int ev2), (.int ev1)])) (fun _ k => XS.iload X45.here hx rfl (hb hby at_208) rfl k) ?_
      have J225 : ∀ (z12 : Int32) (hz12 : z12 = if i1 = i2 then 1 else 0), own_Go p e below s (own_law_Q Z p0 p1 p2 p3 p4 p5 cs h0 n0) 32 320 T45 (mkF m 225 #[.val (.int p0), .val (.int p1), .val (.int p2), .val (.int p3), .val (.int p4), .val (.int p5), .val (.int pc), .val (.int ev1), .val (.int pr1), .val (.int ev2), .val (.int pr2), .val (.int ev3), .val (.int pr3), .val (.ref c1), .val (.ref c2), .val (.ref sa), .val (.ref sb), .val (.ref u), .val e1, .val (.ref sb), .val e3, .unset, .unset, .unset] [(.int z12)]) := by
        intro z12 hz12
        refine own_st (T' := T45) (g' := (mkF m 227 #[.val (.int p0), .val (.int p1), .val (.int p2), .val (.int p3), .val (.int p4), .val (.int p5), .val (.int pc), .val (.int ev1), .val (.int pr1), .val (.int ev2), .val (.int pr2), .val (.int ev3), .val (.int pr3), .val (.ref c1), .val (.ref c2), .val (.ref sa), .val (.ref sb), .val (.ref u), .val e1, .val (.ref sb), .val e3, .val (.int z12), .unset, .unset] [])) (fun _ k => XS.istore X45.here hx rfl (hb hby at_225) rfl (l' := #[.val (.int p0), .val (.int p1), .val (.int p2), .val (.int p3), .val (.int p4), .val (.int p5), .val (.int pc), .val (.int ev1), .val (.int pr1), .val (.int ev2), .val (.int pr2), .val (.int ev3), .val (.int pr3), .val (.ref c1), .val (.ref c2), .val (.ref sa), .val (.ref sb), .val (.ref u), .val e1, .val (.ref sb), .val e3, .val (.int z12), .unset, .unset]) rfl k) ?_
        refine own_st (T' := T45) (g' := (mkF m 229 #[.val (.int p0), .val (.int p1), .val (.int p2), .val (.int p3), .val (.int p4), .val (.int p5), .val (.int pc), .val (.int ev1), .val (.int pr1), .val (.int ev2), .val (.int pr2), .val (.int ev3), .val (.int pr3), .val (.ref c1), .val (.ref c2), .val (.ref sa), .val (.ref sb), .val (.ref u), .val e1, .val (.ref sb), .val e3, .val (.int z12), .unset, .unset] [(.int z12)])) (fun _ k => XS.iload X45.here hx rfl (hb hby at_227) rfl k) ?_
        have J239 : ∀ (x1 : Value) (hX1 : x1.isRef = true) (hx1 : x1 = if i1 = i2 then (.ref sb) else (.ref sa)), own_Go p e below s (own_law_Q Z p0 p1 p2 p3 p4 p5 cs h0 n0) 32 320 T45 (mkF m 239 #[.val (.int p0), .val (.int p1), .val (.int p2), .val (.int p3), .val (.int p4), .val (.int p5), .val (.int pc), .val (.int ev1), .val (.int pr1), .val (.int ev2), .val (.int pr2), .val (.int ev3), .val (.int pr3), .val (.ref c1), .val (.ref c2), .val (.ref sa), .val (.ref sb), .val (.ref u), .val e1, .val (.ref sb), .val e3, .val (.int z12), .unset, .unset] [x1]) := by
          intro x1 hX1 hx1
          refine own_st (T' := T45) (g' := (mkF m 241 #[.val (.int p0), .val (.int p1), .val (.int p2), .val (.int p3), .val (.int p4), .val (.int p5), .val (.int pc), .val (.int ev1), .val (.int pr1), .val (.int ev2), .val (.int pr2), .val (.int ev3), .val (.int pr3), .val (.ref c1), .val (.ref c2), .val (.ref sa), .val (.ref sb), .val (.ref u), .val e1, .val (.ref sb), .val e3, .val (.int z12), .val x1, .unset] [])) (fun _ k => XS.astore X45.here hx rfl (hb hby at_239) rfl hX1 (l' := #[.val (.int p0), .val (.int p1), .val (.int p2), .val (.int p3), .val (.int p4), .val (.int p5), .val (.int pc), .val (.int ev1), .val (.int pr1), .val (.int ev2), .val (.int pr2), .val (.int ev3), .val (.int pr3), .val (.ref c1), .val (.ref c2), .val (.ref sa), .val (.ref sb), .val (.ref u), .val e1, .val (.ref sb), .val e3, .val (.int z12), .val x1, .unset]) (own_store1 hX1 rfl (Or.inl rfl)) k) ?_
          refine own_st (T' := T45) (g' := (mkF m 243 #[.val (.int p0), .val (.int p1), .val (.int p2), .val (.int p3), .val (.int p4), .val (.int p5), .val (.int pc), .val (.int ev1), .val (.int pr1), .val (.int ev2), .val (.int pr2), .val (.int ev3), .val (.int pr3), .val (.ref c1), .val (.ref c2), .val (.ref sa), .val (.ref sb), .val (.ref u), .val e1, .val (.ref sb), .val e3, .val (.int z12), .val x1, .unset] [(.int ev3)])) (fun _ k => XS.iload X45.here hx rfl (hb hby at_241) rfl k) ?_
          refine own_st (T' := T45) (g' := (mkF m 245 #[.val (.int p0), .val (.int p1), .val (.int p2), .val (.int p3), .val (.int p4), .val (.int p5), .val (.int pc), .val (.int ev1), .val (.int pr1), .val (.int ev2), .val (.int pr2), .val (.int ev3), .val (.int pr3), .val (.ref c1), .val (.ref c2), .val (.ref sa), .val (.ref sb), .val (.ref u), .val e1, .val (.ref sb), .val e3, .val (.int z12), .val x1, .unset] [(.int ev2), (.int ev3)])) (fun _ k => XS.iload X45.here hx rfl (hb hby at_243) rfl k) ?_
          have J286 : ∀ (x3 : Value) (hX3 : x3.isRef = true) (hx3 : x3 = if i3 = i2 then (.ref sb) else if i3 = i1 then (.ref sa) else .null), own_Go p e below s (own_law_Q Z p0 p1 p2 p3 p4 p5 cs h0 n0) 32 320 T45 (mkF m 286 #[.val (.int p0), .val (.int p1), .val (.int p2), .val (.int p3), .val (.int p4), .val (.int p5), .val (.int pc), .val (.int ev1), .val (.int pr1), .val (.int ev2), .val (.int pr2), .val (.int ev3), .val (.int pr3), .val (.ref c1), .val (.ref c2), .val (.ref sa), .val (.ref sb), .val (.ref u), .val e1, .val (.ref sb), .val e3, .val (.int z12), .val x1, .val x3] []) := by
            intro x3 hX3 hx3
            refine own_st (T' := T45) (g' := (mkF m 288 #[.val (.int p0), .val (.int p1), .val (.int p2), .val (.int p3), .val (.int p4), .val (.int p5), .val (.int pc), .val (.int ev1), .val (.int pr1), .val (.int ev2), .val (.int pr2), .val (.int ev3), .val (.int pr3), .val (.ref c1), .val (.ref c2), .val (.ref sa), .val (.ref sb), .val (.ref u), .val e1, .val (.ref sb), .val e3, .val (.int z12), .val x1, .val x3] [e1])) (fun _ k => XS.aload X45.here hx rfl (hb hby at_286) rfl hR1 k) ?_
            refine own_st (T' := T45) (g' := (mkF m 290 #[.val (.int p0), .val (.int p1), .val (.int p2), .val (.int p3), .val (.int p4), .val (.int p5), .val (.int pc), .val (.int ev1), .val (.int pr1), .val (.int ev2), .val (.int pr2), .val (.int ev3), .val (.int pr3), .val (.ref c1), .val (.ref c2), .val (.ref sa), .val (.ref sb), .val (.ref u), .val e1, .val (.ref sb), .val e3, .val (.int z12), .val x1, .val x3] [x1, e1])) (fun _ k => XS.aload X45.here hx rfl (hb hby at_288) rfl hX1 k) ?_
            refine own_st (T' := T45) (g' := (mkF m 293 #[.val (.int p0), .val (.int p1), .val (.int p2), .val (.int p3), .val (.int p4), .val (.int p5), .val (.int pc), .val (.int ev1), .val (.int pr1), .val (.int ev2), .val (.int pr2), .val (.int ev3), .val (.int pr3), .val (.ref c1), .val (.ref c2), .val (.ref sa), .val (.ref sb), .val (.ref u), .val e1, .val (.ref sb), .val e3, .val (.int z12), .val x1, .val x3] [])) (fun _ k => Jvm.Free.XT.acmpNo X45.here hx rfl (hb hby at_290) rfl hR1 hX1 (Jvm.Free.XT.aa_ne_f (he1'.trans hx1.symm)) k) ?_
            refine own_st (T' := T45) (g' := (mkF m 295 #[.val (.int p0), .val (.int p1), .val (.int p2), .val (.int p3), .val (.int p4), .val (.int p5), .val (.int pc), .val (.int ev1), .val (.int pr1), .val (.int ev2), .val (.int pr2), .val (.int ev3), .val (.int pr3), .val (.ref c1), .val (.ref c2), .val (.ref sa), .val (.ref sb), .val (.ref u), .val e1, .val (.ref sb), .val e3, .val (.int z12), .val x1, .val x3] [(.ref sb)])) (fun _ k => XS.aload X45.here hx rfl (hb hby at_293) rfl rfl k) ?_
            refine own_st (T' := T45) (g' := (mkF m 297 #[.val (.int p0), .val (.int p1), .val (.int p2), .val (.int p3), .val (.int p4), .val (.int p5), .val (.int pc), .val (.int ev1), .val (.int pr1), .val (.int ev2), .val (.int pr2), .val (.int ev3), .val (.int pr3), .val (.ref c1), .val (.ref c2), .val (.ref sa), .val (.ref sb), .val (.ref u), .val e1, .val (.ref sb), .val e3, .val (.int z12), .val x1, .val x3] [(.ref sb), (.ref sb)])) (fun _ k => XS.aload X45.here hx rfl (hb hby at_295) rfl rfl k) ?_
            refine own_st (T' := T45) (g' := (mkF m 300 #[.val (.int p0), .val (.int p1), .val (.int p2), .val (.int p3), .val (.int p4), .val (.int p5), .val (.int pc), .val (.int ev1), .val (.int pr1), .val (.int ev2), .val (.int pr2), .val (.int ev3), .val (.int pr3), .val (.ref c1), .val (.ref c2), .val (.ref sa), .val (.ref sb), .val (.ref u), .val e1, .val (.ref sb), .val e3, .val (.int z12), .val x1, .val x3] [])) (fun _ k => Jvm.Free.XT.acmpNo X45.here hx rfl (hb hby at_297) rfl rfl rfl (Jvm.Free.XT.aa_ne_f rfl) k) ?_
            refine own_st (T' := T45) (g' := (mkF m 302 #[.val (.int p0), .val (.int p1), .val (.int p2), .val (.int p3), .val (.int p4), .val (.int p5), .val (.int pc), .val (.int ev1), .val (.int pr1), .val (.int ev2), .val (.int pr2), .val (.int ev3), .val (.int pr3), .val (.ref c1), .val (.ref c2), .val (.ref sa), .val (.ref sb), .val (.ref u), .val e1, .val (.ref sb), .val e3, .val (.int z12), .val x1, .val x3] [e3])) (fun _ k => XS.aload X45.here hx rfl (hb hby at_300) rfl hR3 k) ?_
            refine own_st (T' := T45) (g' := (mkF m 304 #[.val (.int p0), .val (.int p1), .val (.int p2), .val (.int p3), .val (.int p4), .val (.int p5), .val (.int pc), .val (.int ev1), .val (.int pr1), .val (.int ev2), .val (.int pr2), .val (.int ev3), .val (.int pr3), .val (.ref c1), .val (.ref c2), .val (.ref sa), .val (.ref sb), .val (.ref u), .val e1, .val (.ref sb), .val e3, .val (.int z12), .val x1, .val x3] [x3, e3])) (fun _ k => XS.aload X45.here hx rfl (hb hby at_302) rfl hX3 k) ?_
            refine own_st (T' := T45) (g' := (mkF m 307 #[.val (.int p0), .val (.int p1), .val (.int p2), .val (.int p3), .val (.int p4), .val (.int p5), .val (.int pc), .val (.int ev1), .val (.int pr1), .val (.int ev2), .val (.int pr2), .val (.int ev3), .val (.int pr3), .val (.ref c1), .val (.ref c2), .val (.ref sa), .val (.ref sb), .val (.ref u), .val e1, .val (.ref sb), .val e3, .val (.int z12), .val x1, .val x3] [])) (fun _ k => Jvm.Free.XT.acmpNo X45.here hx rfl (hb hby at_304) rfl hR3 hX3 (Jvm.Free.XT.aa_ne_f (he3'.trans hx3.symm)) k) ?_
            refine own_st (T' := T45) (g' := (mkF m 308 #[.val (.int p0), .val (.int p1), .val (.int p2), .val (.int p3), .val (.int p4), .val (.int p5), .val (.int pc), .val (.int ev1), .val (.int pr1), .val (.int ev2), .val (.int pr2), .val (.int ev3), .val (.int pr3), .val (.ref c1), .val (.ref c2), .val (.ref sa), .val (.ref sb), .val (.ref u), .val e1, .val (.ref sb), .val e3, .val (.int z12), .val x1, .val x3] [(.int (1 : Int32))])) (fun _ k => XS.iconst X45.here hx rfl (hb hby at_307) k) ?_
            refine own_st (T' := T45) (g' := (mkF m 312 #[.val (.int p0), .val (.int p1), .val (.int p2), .val (.int p3), .val (.int p4), .val (.int p5), .val (.int pc), .val (.int ev1), .val (.int pr1), .val (.int ev2), .val (.int pr2), .val (.int ev3), .val (.int pr3), .val (.ref c1), .val (.ref c2), .val (.ref sa), .val (.ref sb), .val (.ref u), .val e1, .val (.ref sb), .val e3, .val (.int z12), .val x1, .val x3] [(.int (1 : Int32))])) (fun _ k => XS.goto X45.here hx rfl (pc0 := 308) (pc' := 312) rfl (hb hby at_308) (by decide) (by decide) k) ?_
            exact own_retN X45 hx Bd.returns Bd.notSynchronized e45 (by simp) (hb hby at_312) ⟨rfl, N0''''''''''''''⟩ (by decide) (by decide)
          by_cases qa : ev3 = ev2
          · refine own_st (T' := T45) (g' := (mkF m 248 #[.val (.int p0), .val (.int p1), .val (.int p2), .val (.int p3), .val (.int p4), .val (.int p5), .val (.int pc), .val (.int ev1), .val (.int pr1), .val (.int ev2), .val (.int pr2), .val (.int ev3), .val (.int pr3), .val (.ref c1), .val (.ref c2), .val (.ref sa), .val (.ref sb), .val (.ref u), .val e1, .val (.ref sb), .val e3, .val (.int z12), .val x1, .unset] [])) (fun _ k => XS.icmpNo X45.here hx rfl (hb hby at_245) rfl (Jvm.Free.XT.ii_ne_f qa) k) ?_
            refine own_st (T' := T45) (g' := (mkF m 250 #[.val (.int p0), .val (.int p1), .val (.int p2), .val (.int p3), .val (.int p4), .val (.int p5), .val (.int pc), .val (.int ev1), .val (.int pr1), .val (.int ev2), .val (.int pr2), .val (.int ev3), .val (.int pr3), .val (.ref c1), .val (.ref c2), .val (.ref sa), .val (.ref sb), .val (.ref u), .val e1, .val (.ref sb), .val e3, .val (.int z12), .val x1, .unset] [(.int pr3)])) (fun _ k => XS.iload X45.here hx rfl (hb hby at_248) rfl k) ?_
            refine own_st (T' := T45) (g' := (mkF m 252 #[.val (.int p0), .val (.int p1), .val (.int p2), .val (.int p3), .val (.int p4), .val (.int p5), .val (.int pc), .val (.int ev1), .val (.int pr1), .val (.int ev2), .val (.int pr2), .val (.int ev3), .val (.int pr3), .val (.ref c1), .val (.ref c2), .val (.ref sa), .val (.ref sb), .val (.ref u), .val e1, .val (.ref sb), .val e3, .val (.int z12), .val x1, .unset] [(.int pr2), (.int pr3)])) (fun _ k => XS.iload X45.here hx rfl (hb hby at_250) rfl k) ?_
            by_cases qb : pr3 = pr2
            · refine own_st (T' := T45) (g' := (mkF m 255 #[.val (.int p0), .val (.int p1), .val (.int p2), .val (.int p3), .val (.int p4), .val (.int p5), .val (.int pc), .val (.int ev1), .val (.int pr1), .val (.int ev2), .val (.int pr2), .val (.int ev3), .val (.int pr3), .val (.ref c1), .val (.ref c2), .val (.ref sa), .val (.ref sb), .val (.ref u), .val e1, .val (.ref sb), .val e3, .val (.int z12), .val x1, .unset] [])) (fun _ k => XS.icmpNo X45.here hx rfl (hb hby at_252) rfl (Jvm.Free.XT.ii_ne_f qb) k) ?_
              refine own_st (T' := T45) (g' := (mkF m 257 #[.val (.int p0), .val (.int p1), .val (.int p2), .val (.int p3), .val (.int p4), .val (.int p5), .val (.int pc), .val (.int ev1), .val (.int pr1), .val (.int ev2), .val (.int pr2), .val (.int ev3), .val (.int pr3), .val (.ref c1), .val (.ref c2), .val (.ref sa), .val (.ref sb), .val (.ref u), .val e1, .val (.ref sb), .val e3, .val (.int z12), .val x1, .unset] [(.ref sb)])) (fun _ k => XS.aload X45.here hx rfl (hb hby at_255) rfl rfl k) ?_
              refine own_st (T' := T45) (g' := (mkF m 259 #[.val (.int p0), .val (.int p1), .val (.int p2), .val (.int p3), .val (.int p4), .val (.int p5), .val (.int pc), .val (.int ev1), .val (.int pr1), .val (.int ev2), .val (.int pr2), .val (.int ev3), .val (.int pr3), .val (.ref c1), .val (.ref c2), .val (.ref sa), .val (.ref sb), .val (.ref u), .val e1, .val (.ref sb), .val e3, .val (.int z12), .val x1, .val (.ref sb)] [])) (fun _ k => XS.astore X45.here hx rfl (hb hby at_257) rfl rfl (l' := #[.val (.int p0), .val (.int p1), .val (.int p2), .val (.int p3), .val (.int p4), .val (.int p5), .val (.int pc), .val (.int ev1), .val (.int pr1), .val (.int ev2), .val (.int pr2), .val (.int ev3), .val (.int pr3), .val (.ref c1), .val (.ref c2), .val (.ref sa), .val (.ref sb), .val (.ref u), .val e1, .val (.ref sb), .val e3, .val (.int z12), .val x1, .val (.ref sb)]) rfl k) ?_
              refine own_st (T' := T45) (g' := (mkF m 286 #[.val (.int p0), .val (.int p1), .val (.int p2), .val (.int p3), .val (.int p4), .val (.int p5), .val (.int pc), .val (.int ev1), .val (.int pr1), .val (.int ev2), .val (.int pr2), .val (.int ev3), .val (.int pr3), .val (.ref c1), .val (.ref c2), .val (.ref sa), .val (.ref sb), .val (.ref u), .val e1, .val (.ref sb), .val e3, .val (.int z12), .val x1, .val (.ref sb)] [])) (fun _ k => XS.goto X45.here hx rfl (pc0 := 259) (pc' := 286) rfl (hb hby at_259) (by decide) (by decide) k) ?_
              exact J286 _ rfl (by simp [inj32, qa, qb])
            · refine own_st (T' := T45) (g' := (mkF m 262 #[.val (.int p0), .val (.int p1), .val (.int p2), .val (.int p3), .val (.int p4), .val (.int p5), .val (.int pc), .val (.int ev1), .val (.int pr1), .val (.int ev2), .val (.int pr2), .val (.int ev3), .val (.int pr3), .val (.ref c1), .val (.ref c2), .val (.ref sa), .val (.ref sb), .val (.ref u), .val e1, .val (.ref sb), .val e3, .val (.int z12), .val x1, .unset] [])) (fun _ k => XS.icmpYes X45.here hx rfl (pc0 := 252) (pc' := 262) rfl (hb hby at_252) rfl (Jvm.Free.XT.ii_ne_t qb) (by decide) (by decide) k) ?_
              refine own_st (T' := T45) (g' := (mkF m 264 #[.val (.int p0), .val (.int p1), .val (.int p2), .val (.int p3), .val (.int p4), .val (.int p5), .val (.int pc), .val (.int ev1), .val (.int pr1), .val (.int ev2), .val (.int pr2), .val (.int ev3), .val (.int pr3), .val (.ref c1), .val (.ref c2), .val (.ref sa), .val (.ref sb), .val (.ref u), .val e1, .val (.ref sb), .val e3, .val (.int z12), .val x1, .unset] [(.int ev3)])) (fun _ k => XS.iload X45.here hx rfl (hb hby at_262) rfl k) ?_
              refine own_st (T' := T45) (g' := (mkF m 266 #[.val (.int p0), .val (.int p1), .val (.int p2), .val (.int p3), .val (.int p4), .val (.int p5), .val (.int pc), .val (.int ev1), .val (.int pr1), .val (.int ev2), .val (.int pr2), .val (.int ev3), .val (.int pr3), .val (.ref c1), .val (.ref c2), .val (.ref sa), .val (.ref sb), .val (.ref u), .val e1, .val (.ref sb), .val e3, .val (.int z12), .val x1, .unset] [(.int ev1), (.int ev3)])) (fun _ k => XS.iload X45.here hx rfl (hb hby at_264) rfl k) ?_
              by_cases qc : ev3 = ev1
              · refine own_st (T' := T45) (g' := (mkF m 269 #[.val (.int p0), .val (.int p1), .val (.int p2), .val (.int p3), .val (.int p4), .val (.int p5), .val (.int pc), .val (.int ev1), .val (.int pr1), .val (.int ev2), .val (.int pr2), .val (.int ev3), .val (.int pr3), .val (.ref c1), .val (.ref c2), .val (.ref sa), .val (.ref sb), .val (.ref u), .val e1, .val (.ref sb), .val e3, .val (.int z12), .val x1, .unset] [])) (fun _ k => XS.icmpNo X45.here hx rfl (hb hby at_266) rfl (Jvm.Free.XT.ii_ne_f qc) k) ?_
                refine own_st (T' := T45) (g' := (mkF m 271 #[.val (.int p0), .val (.int p1), .val (.int p2), .val (.int p3), .val (.int p4), .val (.int p5), .val (.int pc), .val (.int ev1), .val (.int pr1), .val (.int ev2), .val (.int pr2), .val (.int ev3), .val (.int pr3), .val (.ref c1), .val (.ref c2), .val (.ref sa), .val (.ref sb), .val (.ref u), .val e1, .val (.ref sb), .val e3, .val (.int z12), .val x1, .unset] [(.int pr3)])) (fun _ k => XS.iload X45.here hx rfl (hb hby at_269) rfl k) ?_
                refine own_st (T' := T45) (g' := (mkF m 273 #[.val (.int p0), .val (.int p1), .val (.int p2), .val (.int p3), .val (.int p4), .val (.int p5), .val (.int pc), .val (.int ev1), .val (.int pr1), .val (.int ev2), .val (.int pr2), .val (.int ev3), .val (.int pr3), .val (.ref c1), .val (.ref c2), .val (.ref sa), .val (.ref sb), .val (.ref u), .val e1, .val (.ref sb), .val e3, .val (.int z12), .val x1, .unset] [(.int pr1), (.int pr3)])) (fun _ k => XS.iload X45.here hx rfl (hb hby at_271) rfl k) ?_
                by_cases qd : pr3 = pr1
                · refine own_st (T' := T45) (g' := (mkF m 276 #[.val (.int p0), .val (.int p1), .val (.int p2), .val (.int p3), .val (.int p4), .val (.int p5), .val (.int pc), .val (.int ev1), .val (.int pr1), .val (.int ev2), .val (.int pr2), .val (.int ev3), .val (.int pr3), .val (.ref c1), .val (.ref c2), .val (.ref sa), .val (.ref sb), .val (.ref u), .val e1, .val (.ref sb), .val e3, .val (.int z12), .val x1, .unset] [])) (fun _ k => XS.icmpNo X45.here hx rfl (hb hby at_273) rfl (Jvm.Free.XT.ii_ne_f qd) k) ?_
                  refine own_st (T' := T45) (g' := (mkF m 278 #[.val (.int p0), .val (.int p1), .val (.int p2), .val (.int p3), .val (.int p4), .val (.int p5), .val (.int pc), .val (.int ev1), .val (.int pr1), .val (.int ev2), .val (.int pr2), .val (.int ev3), .val (.int pr3), .val (.ref c1), .val (.ref c2), .val (.ref sa), .val (.ref sb), .val (.ref u), .val e1, .val (.ref sb), .val e3, .val (.int z12), .val x1, .unset] [(.ref sa)])) (fun _ k => XS.aload X45.here hx rfl (hb hby at_276) rfl rfl k) ?_
                  refine own_st (T' := T45) (g' := (mkF m 280 #[.val (.int p0), .val (.int p1), .val (.int p2), .val (.int p3), .val (.int p4), .val (.int p5), .val (.int pc), .val (.int ev1), .val (.int pr1), .val (.int ev2), .val (.int pr2), .val (.int ev3), .val (.int pr3), .val (.ref c1), .val (.ref c2), .val (.ref sa), .val (.ref sb), .val (.ref u), .val e1, .val (.ref sb), .val e3, .val (.int z12), .val x1, .val (.ref sa)] [])) (fun _ k => XS.astore X45.here hx rfl (hb hby at_278) rfl rfl (l' := #[.val (.int p0), .val (.int p1), .val (.int p2), .val (.int p3), .val (.int p4), .val (.int p5), .val (.int pc), .val (.int ev1), .val (.int pr1), .val (.int ev2), .val (.int pr2), .val (.int ev3), .val (.int pr3), .val (.ref c1), .val (.ref c2), .val (.ref sa), .val (.ref sb), .val (.ref u), .val e1, .val (.ref sb), .val e3, .val (.int z12), .val x1, .val (.ref sa)]) rfl k) ?_
                  refine own_st (T' := T45) (g' := (mkF m 286 #[.val (.int p0), .val (.int p1), .val (.int p2), .val (.int p3), .val (.int p4), .val (.int p5), .val (.int pc), .val (.int ev1), .val (.int pr1), .val (.int ev2), .val (.int pr2), .val (.int ev3), .val (.int pr3), .val (.ref c1), .val (.ref c2), .val (.ref sa), .val (.ref sb), .val (.ref u), .val e1, .val (.ref sb), .val e3, .val (.int z12), .val x1, .val (.ref sa)] [])) (fun _ k => XS.goto X45.here hx rfl (pc0 := 280) (pc' := 286) rfl (hb hby at_280) (by decide) (by decide) k) ?_
                  exact J286 _ rfl (by have n2 : ¬ i3 = i2 := (fun u => qb (inj32.mp u).2); simp [n2, inj31, qc, qd])
                · refine own_st (T' := T45) (g' := (mkF m 283 #[.val (.int p0), .val (.int p1), .val (.int p2), .val (.int p3), .val (.int p4), .val (.int p5), .val (.int pc), .val (.int ev1), .val (.int pr1), .val (.int ev2), .val (.int pr2), .val (.int ev3), .val (.int pr3), .val (.ref c1), .val (.ref c2), .val (.ref sa), .val (.ref sb), .val (.ref u), .val e1, .val (.ref sb), .val e3, .val (.int z12), .val x1, .unset] [])) (fun _ k => XS.icmpYes X45.here hx rfl (pc0 := 273) (pc' := 283) rfl (hb hby at_273) rfl (Jvm.Free.XT.ii_ne_t qd) (by decide) (by decide) k) ?_
                  refine own_st (T' := T45) (g' := (mkF m 284 #[.val (.int p0), .val (.int p1), .val (.int p2), .val (.int p3), .val (.int p4), .val (.int p5), .val (.int pc), .val (.int ev1), .val (.int pr1), .val (.int ev2), .val (.int pr2), .val (.int ev3), .val (.int pr3), .val (.ref c1), .val (.ref c2), .val (.ref sa), .val (.ref sb), .val (.ref u), .val e1, .val (.ref sb), .val e3, .val (.int z12), .val x1, .unset] [.null])) (fun _ k => XS.aconstNull X45.here hx rfl (hb hby at_283) k) ?_
                  refine own_st (T' := T45) (g' := (mkF m 286 #[.val (.int p0), .val (.int p1), .val (.int p2), .val (.int p3), .val (.int p4), .val (.int p5), .val (.int pc), .val (.int ev1), .val (.int pr1), .val (.int ev2), .val (.int pr2), .val (.int ev3), .val (.int pr3), .val (.ref c1), .val (.ref c2), .val (.ref sa), .val (.ref sb), .val (.ref u), .val e1, .val (.ref sb), .val e3, .val (.int z12), .val x1, .val .null] [])) (fun _ k => XS.astore X45.here hx rfl (hb hby at_284) rfl rfl (l' := #[.val (.int p0), .val (.int p1), .val (.int p2), .val (.int p3), .val (.int p4), .val (.int p5), .val (.int pc), .val (.int ev1), .val (.int pr1), .val (.int ev2), .val (.int pr2), .val (.int ev3), .val (.int pr3), .val (.ref c1), .val (.ref c2), .val (.ref sa), .val (.ref sb), .val (.ref u), .val e1, .val (.ref sb), .val e3, .val (.int z12), .val x1, .val .null]) rfl k) ?_
                  exact J286 _ rfl (by have n2 : ¬ i3 = i2 := (fun u => qb (inj32.mp u).2); have n1 : ¬ i3 = i1 := fun u => qd (inj31.mp u).2; simp [n1, n2])
              · refine own_st (T' := T45) (g' := (mkF m 283 #[.val (.int p0), .val (.int p1), .val (.int p2), .val (.int p3), .val (.int p4), .val (.int p5), .val (.int pc), .val (.int ev1), .val (.int pr1), .val (.int ev2), .val (.int pr2), .val (.int ev3), .val (.int pr3), .val (.ref c1), .val (.ref c2), .val (.ref sa), .val (.ref sb), .val (.ref u), .val e1, .val (.ref sb), .val e3, .val (.int z12), .val x1, .unset] [])) (fun _ k => XS.icmpYes X45.here hx rfl (pc0 := 266) (pc' := 283) rfl (hb hby at_266) rfl (Jvm.Free.XT.ii_ne_t qc) (by decide) (by decide) k) ?_
                refine own_st (T' := T45) (g' := (mkF m 284 #[.val (.int p0), .val (.int p1), .val (.int p2), .val (.int p3), .val (.int p4), .val (.int p5), .val (.int pc), .val (.int ev1), .val (.int pr1), .val (.int ev2), .val (.int pr2), .val (.int ev3), .val (.int pr3), .val (.ref c1), .val (.ref c2), .val (.ref sa), .val (.ref sb), .val (.ref u), .val e1, .val (.ref sb), .val e3, .val (.int z12), .val x1, .unset] [.null])) (fun _ k => XS.aconstNull X45.here hx rfl (hb hby at_283) k) ?_
                refine own_st (T' := T45) (g' := (mkF m 286 #[.val (.int p0), .val (.int p1), .val (.int p2), .val (.int p3), .val (.int p4), .val (.int p5), .val (.int pc), .val (.int ev1), .val (.int pr1), .val (.int ev2), .val (.int pr2), .val (.int ev3), .val (.int pr3), .val (.ref c1), .val (.ref c2), .val (.ref sa), .val (.ref sb), .val (.ref u), .val e1, .val (.ref sb), .val e3, .val (.int z12), .val x1, .val .null] [])) (fun _ k => XS.astore X45.here hx rfl (hb hby at_284) rfl rfl (l' := #[.val (.int p0), .val (.int p1), .val (.int p2), .val (.int p3), .val (.int p4), .val (.int p5), .val (.int pc), .val (.int ev1), .val (.int pr1), .val (.int ev2), .val (.int pr2), .val (.int ev3), .val (.int pr3), .val (.ref c1), .val (.ref c2), .val (.ref sa), .val (.ref sb), .val (.ref u), .val e1, .val (.ref sb), .val e3, .val (.int z12), .val x1, .val .null]) rfl k) ?_
                exact J286 _ rfl (by have n2 : ¬ i3 = i2 := (fun u => qb (inj32.mp u).2); have n1 : ¬ i3 = i1 := fun u => qc (inj31.mp u).1; simp [n1, n2])
          · refine own_st (T' := T45) (g' := (mkF m 262 #[.val (.int p0), .val (.int p1), .val (.int p2), .val (.int p3), .val (.int p4), .val (.int p5), .val (.int pc), .val (.int ev1), .val (.int pr1), .val (.int ev2), .val (.int pr2), .val (.int ev3), .val (.int pr3), .val (.ref c1), .val (.ref c2), .val (.ref sa), .val (.ref sb), .val (.ref u), .val e1, .val (.ref sb), .val e3, .val (.int z12), .val x1, .unset] [])) (fun _ k => XS.icmpYes X45.here hx rfl (pc0 := 245) (pc' := 262) rfl (hb hby at_245) rfl (Jvm.Free.XT.ii_ne_t qa) (by decide) (by decide) k) ?_
            refine own_st (T' := T45) (g' := (mkF m 264 #[.val (.int p0), .val (.int p1), .val (.int p2), .val (.int p3), .val (.int p4), .val (.int p5), .val (.int pc), .val (.int ev1), .val (.int pr1), .val (.int ev2), .val (.int pr2), .val (.int ev3), .val (.int pr3), .val (.ref c1), .val (.ref c2), .val (.ref sa), .val (.ref sb), .val (.ref u), .val e1, .val (.ref sb), .val e3, .val (.int z12), .val x1, .unset] [(.int ev3)])) (fun _ k => XS.iload X45.here hx rfl (hb hby at_262) rfl k) ?_
            refine own_st (T' := T45) (g' := (mkF m 266 #[.val (.int p0), .val (.int p1), .val (.int p2), .val (.int p3), .val (.int p4), .val (.int p5), .val (.int pc), .val (.int ev1), .val (.int pr1), .val (.int ev2), .val (.int pr2), .val (.int ev3), .val (.int pr3), .val (.ref c1), .val (.ref c2), .val (.ref sa), .val (.ref sb), .val (.ref u), .val e1, .val (.ref sb), .val e3, .val (.int z12), .val x1, .unset] [(.int ev1), (.int ev3)])) (fun _ k => XS.iload X45.here hx rfl (hb hby at_264) rfl k) ?_
            by_cases qc : ev3 = ev1
            · refine own_st (T' := T45) (g' := (mkF m 269 #[.val (.int p0), .val (.int p1), .val (.int p2), .val (.int p3), .val (.int p4), .val (.int p5), .val (.int pc), .val (.int ev1), .val (.int pr1), .val (.int ev2), .val (.int pr2), .val (.int ev3), .val (.int pr3), .val (.ref c1), .val (.ref c2), .val (.ref sa), .val (.ref sb), .val (.ref u), .val e1, .val (.ref sb), .val e3, .val (.int z12), .val x1, .unset] [])) (fun _ k => XS.icmpNo X45.here hx rfl (hb hby at_266) rfl (Jvm.Free.XT.ii_ne_f qc) k) ?_
              refine own_st (T' := T45) (g' := (mkF m 271 #[.val (.int p0), .val (.int p1), .val (.int p2), .val (.int p3), .val (.int p4), .val (.int p5), .val (.int pc), .val (.int ev1), .val (.int pr1), .val (.int ev2), .val (.int pr2), .val (.int ev3), .val (.int pr3), .val (.ref c1), .val (.ref c2), .val (.ref sa), .val (.ref sb), .val (.ref u), .val e1, .val (.ref sb), .val e3, .val (.int z12), .val x1, .unset] [(.int pr3)])) (fun _ k => XS.iload X45.here hx rfl (hb hby at_269) rfl k) ?_
              refine own_st (T' := T45) (g' := (mkF m 273 #[.val (.int p0), .val (.int p1), .val (.int p2), .val (.int p3), .val (.int p4), .val (.int p5), .val (.int pc), .val (.int ev1), .val (.int pr1), .val (.int ev2), .val (.int pr2), .val (.int ev3), .val (.int pr3), .val (.ref c1), .val (.ref c2), .val (.ref sa), .val (.ref sb), .val (.ref u), .val e1, .val (.ref sb), .val e3, .val (.int z12), .val x1, .unset] [(.int pr1), (.int pr3)])) (fun _ k => XS.iload X45.here hx rfl (hb hby at_271) rfl k) ?_
              by_cases qd : pr3 = pr1
              · refine own_st (T' := T45) (g' := (mkF m 276 #[.val (.int p0), .val (.int p1), .val (.int p2), .val (.int p3), .val (.int p4), .val (.int p5), .val (.int pc), .val (.int ev1), .val (.int pr1), .val (.int ev2), .val (.int pr2), .val (.int ev3), .val (.int pr3), .val (.ref c1), .val (.ref c2), .val (.ref sa), .val (.ref sb), .val (.ref u), .val e1, .val (.ref sb), .val e3, .val (.int z12), .val x1, .unset] [])) (fun _ k => XS.icmpNo X45.here hx rfl (hb hby at_273) rfl (Jvm.Free.XT.ii_ne_f qd) k) ?_
                refine own_st (T' := T45) (g' := (mkF m 278 #[.val (.int p0), .val (.int p1), .val (.int p2), .val (.int p3), .val (.int p4), .val (.int p5), .val (.int pc), .val (.int ev1), .val (.int pr1), .val (.int ev2), .val (.int pr2), .val (.int ev3), .val (.int pr3), .val (.ref c1), .val (.ref c2), .val (.ref sa), .val (.ref sb), .val (.ref u), .val e1, .val (.ref sb), .val e3, .val (.int z12), .val x1, .unset] [(.ref sa)])) (fun _ k => XS.aload X45.here hx rfl (hb hby at_276) rfl rfl k) ?_
                refine own_st (T' := T45) (g' := (mkF m 280 #[.val (.int p0), .val (.int p1), .val (.int p2), .val (.int p3), .val (.int p4), .val (.int p5), .val (.int pc), .val (.int ev1), .val (.int pr1), .val (.int ev2), .val (.int pr2), .val (.int ev3), .val (.int pr3), .val (.ref c1), .val (.ref c2), .val (.ref sa), .val (.ref sb), .val (.ref u), .val e1, .val (.ref sb), .val e3, .val (.int z12), .val x1, .val (.ref sa)] [])) (fun _ k => XS.astore X45.here hx rfl (hb hby at_278) rfl rfl (l' := #[.val (.int p0), .val (.int p1), .val (.int p2), .val (.int p3), .val (.int p4), .val (.int p5), .val (.int pc), .val (.int ev1), .val (.int pr1), .val (.int ev2), .val (.int pr2), .val (.int ev3), .val (.int pr3), .val (.ref c1), .val (.ref c2), .val (.ref sa), .val (.ref sb), .val (.ref u), .val e1, .val (.ref sb), .val e3, .val (.int z12), .val x1, .val (.ref sa)]) rfl k) ?_
                refine own_st (T' := T45) (g' := (mkF m 286 #[.val (.int p0), .val (.int p1), .val (.int p2), .val (.int p3), .val (.int p4), .val (.int p5), .val (.int pc), .val (.int ev1), .val (.int pr1), .val (.int ev2), .val (.int pr2), .val (.int ev3), .val (.int pr3), .val (.ref c1), .val (.ref c2), .val (.ref sa), .val (.ref sb), .val (.ref u), .val e1, .val (.ref sb), .val e3, .val (.int z12), .val x1, .val (.ref sa)] [])) (fun _ k => XS.goto X45.here hx rfl (pc0 := 280) (pc' := 286) rfl (hb hby at_280) (by decide) (by decide) k) ?_
                exact J286 _ rfl (by have n2 : ¬ i3 = i2 := (fun u => qa (inj32.mp u).1); simp [n2, inj31, qc, qd])
              · refine own_st (T' := T45) (g' := (mkF m 283 #[.val (.int p0), .val (.int p1), .val (.int p2), .val (.int p3), .val (.int p4), .val (.int p5), .val (.int pc), .val (.int ev1), .val (.int pr1), .val (.int ev2), .val (.int pr2), .val (.int ev3), .val (.int pr3), .val (.ref c1), .val (.ref c2), .val (.ref sa), .val (.ref sb), .val (.ref u), .val e1, .val (.ref sb), .val e3, .val (.int z12), .val x1, .unset] [])) (fun _ k => XS.icmpYes X45.here hx rfl (pc0 := 273) (pc' := 283) rfl (hb hby at_273) rfl (Jvm.Free.XT.ii_ne_t qd) (by decide) (by decide) k) ?_
                refine own_st (T' := T45) (g' := (mkF m 284 #[.val (.int p0), .val (.int p1), .val (.int p2), .val (.int p3), .val (.int p4), .val (.int p5), .val (.int pc), .val (.int ev1), .val (.int pr1), .val (.int ev2), .val (.int pr2), .val (.int ev3), .val (.int pr3), .val (.ref c1), .val (.ref c2), .val (.ref sa), .val (.ref sb), .val (.ref u), .val e1, .val (.ref sb), .val e3, .val (.int z12), .val x1, .unset] [.null])) (fun _ k => XS.aconstNull X45.here hx rfl (hb hby at_283) k) ?_
                refine own_st (T' := T45) (g' := (mkF m 286 #[.val (.int p0), .val (.int p1), .val (.int p2), .val (.int p3), .val (.int p4), .val (.int p5), .val (.int pc), .val (.int ev1), .val (.int pr1), .val (.int ev2), .val (.int pr2), .val (.int ev3), .val (.int pr3), .val (.ref c1), .val (.ref c2), .val (.ref sa), .val (.ref sb), .val (.ref u), .val e1, .val (.ref sb), .val e3, .val (.int z12), .val x1, .val .null] [])) (fun _ k => XS.astore X45.here hx rfl (hb hby at_284) rfl rfl (l' := #[.val (.int p0), .val (.int p1), .val (.int p2), .val (.int p3), .val (.int p4), .val (.int p5), .val (.int pc), .val (.int ev1), .val (.int pr1), .val (.int ev2), .val (.int pr2), .val (.int ev3), .val (.int pr3), .val (.ref c1), .val (.ref c2), .val (.ref sa), .val (.ref sb), .val (.ref u), .val e1, .val (.ref sb), .val e3, .val (.int z12), .val x1, .val .null]) rfl k) ?_
                exact J286 _ rfl (by have n2 : ¬ i3 = i2 := (fun u => qa (inj32.mp u).1); have n1 : ¬ i3 = i1 := fun u => qd (inj31.mp u).2; simp [n1, n2])
            · refine own_st (T' := T45) (g' := (mkF m 283 #[.val (.int p0), .val (.int p1), .val (.int p2), .val (.int p3), .val (.int p4), .val (.int p5), .val (.int pc), .val (.int ev1), .val (.int pr1), .val (.int ev2), .val (.int pr2), .val (.int ev3), .val (.int pr3), .val (.ref c1), .val (.ref c2), .val (.ref sa), .val (.ref sb), .val (.ref u), .val e1, .val (.ref sb), .val e3, .val (.int z12), .val x1, .unset] [])) (fun _ k => XS.icmpYes X45.here hx rfl (pc0 := 266) (pc' := 283) rfl (hb hby at_266) rfl (Jvm.Free.XT.ii_ne_t qc) (by decide) (by decide) k) ?_
              refine own_st (T' := T45) (g' := (mkF m 284 #[.val (.int p0), .val (.int p1), .val (.int p2), .val (.int p3), .val (.int p4), .val (.int p5), .val (.int pc), .val (.int ev1), .val (.int pr1), .val (.int ev2), .val (.int pr2), .val (.int ev3), .val (.int pr3), .val (.ref c1), .val (.ref c2), .val (.ref sa), .val (.ref sb), .val (.ref u), .val e1, .val (.ref sb), .val e3, .val (.int z12), .val x1, .unset] [.null])) (fun _ k => XS.aconstNull X45.here hx rfl (hb hby at_283) k) ?_
              refine own_st (T' := T45) (g' := (mkF m 286 #[.val (.int p0), .val (.int p1), .val (.int p2), .val (.int p3), .val (.int p4), .val (.int p5), .val (.int pc), .val (.int ev1), .val (.int pr1), .val (.int ev2), .val (.int pr2), .val (.int ev3), .val (.int pr3), .val (.ref c1), .val (.ref c2), .val (.ref sa), .val (.ref sb), .val (.ref u), .val e1, .val (.ref sb), .val e3, .val (.int z12), .val x1, .val .null] [])) (fun _ k => XS.astore X45.here hx rfl (hb hby at_284) rfl rfl (l' := #[.val (.int p0), .val (.int p1), .val (.int p2), .val (.int p3), .val (.int p4), .val (.int p5), .val (.int pc), .val (.int ev1), .val (.int pr1), .val (.int ev2), .val (.int pr2), .val (.int ev3), .val (.int pr3), .val (.ref c1), .val (.ref c2), .val (.ref sa), .val (.ref sb), .val (.ref u), .val e1, .val (.ref sb), .val e3, .val (.int z12), .val x1, .val .null]) rfl k) ?_
              exact J286 _ rfl (by have n2 : ¬ i3 = i2 := (fun u => qa (inj32.mp u).1); have n1 : ¬ i3 = i1 := fun u => qc (inj31.mp u).1; simp [n1, n2])
        by_cases q12 : z12 = (0 : Int32)
        · refine own_st (T' := T45) (g' := (mkF m 237 #[.val (.int p0), .val (.int p1), .val (.int p2), .val (.int p3), .val (.int p4), .val (.int p5), .val (.int pc), .val (.int ev1), .val (.int pr1), .val (.int ev2), .val (.int pr2), .val (.int ev3), .val (.int pr3), .val (.ref c1), .val (.ref c2), .val (.ref sa), .val (.ref sb), .val (.ref u), .val e1, .val (.ref sb), .val e3, .val (.int z12), .unset, .unset] [])) (fun _ k => XS.ifYes X45.here hx rfl (pc0 := 229) (pc' := 237) rfl (hb hby at_229) rfl (Jvm.Free.XT.i0_eq_t q12) (by decide) (by decide) k) ?_
          refine own_st (T' := T45) (g' := (mkF m 239 #[.val (.int p0), .val (.int p1), .val (.int p2), .val (.int p3), .val (.int p4), .val (.int p5), .val (.int pc), .val (.int ev1), .val (.int pr1), .val (.int ev2), .val (.int pr2), .val (.int ev3), .val (.int pr3), .val (.ref c1), .val (.ref c2), .val (.ref sa), .val (.ref sb), .val (.ref u), .val e1, .val (.ref sb), .val e3, .val (.int z12), .unset, .unset] [(.ref sa)])) (fun _ k => XS.aload X45.here hx rfl (hb hby at_237) rfl rfl k) ?_
          exact J239 _ rfl (by subst hz12; by_cases u1 : i1 = i2 <;> simp_all)
        · refine own_st (T' := T45) (g' := (mkF m 232 #[.val (.int p0), .val (.int p1), .val (.int p2), .val (.int p3), .val (.int p4), .val (.int p5), .val (.int pc), .val (.int ev1), .val (.int pr1), .val (.int ev2), .val (.int pr2), .val (.int ev3), .val (.int pr3), .val (.ref c1), .val (.ref c2), .val (.ref sa), .val (.ref sb), .val (.ref u), .val e1, .val (.ref sb), .val e3, .val (.int z12), .unset, .unset] [])) (fun _ k => XS.ifNo X45.here hx rfl (hb hby at_229) rfl (Jvm.Free.XT.i0_eq_f q12) k) ?_
          refine own_st (T' := T45) (g' := (mkF m 234 #[.val (.int p0), .val (.int p1), .val (.int p2), .val (.int p3), .val (.int p4), .val (.int p5), .val (.int pc), .val (.int ev1), .val (.int pr1), .val (.int ev2), .val (.int pr2), .val (.int ev3), .val (.int pr3), .val (.ref c1), .val (.ref c2), .val (.ref sa), .val (.ref sb), .val (.ref u), .val e1, .val (.ref sb), .val e3, .val (.int z12), .unset, .unset] [(.ref sb)])) (fun _ k => XS.aload X45.here hx rfl (hb hby at_232) rfl rfl k) ?_
          refine own_st (T' := T45) (g' := (mkF m 239 #[.val (.int p0), .val (.int p1), .val (.int p2), .val (.int p3), .val (.int p4), .val (.int p5), .val (.int pc), .val (.int ev1), .val (.int pr1), .val (.int ev2), .val (.int pr2), .val (.int ev3), .val (.int pr3), .val (.ref c1), .val (.ref c2), .val (.ref sa), .val (.ref sb), .val (.ref u), .val e1, .val (.ref sb), .val e3, .val (.int z12), .unset, .unset] [(.ref sb)])) (fun _ k => XS.goto X45.here hx rfl (pc0 := 234) (pc' := 239) rfl (hb hby at_234) (by decide) (by decide) k) ?_
          exact J239 _ rfl (by subst hz12; by_cases u1 : i1 = i2 <;> simp_all)
      by_cases qa : ev1 = ev2
      · refine own_st (T' := T45) (g' := (mkF m 213 #[.val (.int p0), .val (.int p1), .val (.int p2), .val (.int p3), .val (.int p4), .val (.int p5), .val (.int pc), .val (.int ev1), .val (.int pr1), .val (.int ev2), .val (.int pr2), .val (.int ev3), .val (.int pr3), .val (.ref c1), .val (.ref c2), .val (.ref sa), .val (.ref sb), .val (.ref u), .val e1, .val (.ref sb), .val e3, .unset, .unset, .unset] [])) (fun _ k => XS.icmpNo X45.here hx rfl (hb hby at_210) rfl (Jvm.Free.XT.ii_ne_f qa) k) ?_
        refine own_st (T' := T45) (g' := (mkF m 215 #[.val (.int p0), .val (.int p1), .val (.int p2), .val (.int p3), .val (.int p4), .val (.int p5), .val (.int pc), .val (.int ev1), .val (.int pr1), .val (.int ev2), .val (.int pr2), .val (.int ev3), .val (.int pr3), .val (.ref c1), .val (.ref c2), .val (.ref sa), .val (.ref sb), .val (.ref u), .val e1, .val (.ref sb), .val e3, .unset, .unset, .unset] [(.int pr1)])) (fun _ k => XS.iload X45.here hx rfl (hb hby at_213) rfl k) ?_
        refine own_st (T' := T45) (g' := (mkF m 217 #[.val (.int p0), .val (.int p1), .val (.int p2), .val (.int p3), .val (.int p4), .val (.int p5), .val (.int pc), .val (.int ev1), .val (.int pr1), .val (.int ev2), .val (.int pr2), .val (.int ev3), .val (.int pr3), .val (.ref c1), .val (.ref c2), .val (.ref sa), .val (.ref sb), .val (.ref u), .val e1, .val (.ref sb), .val e3, .unset, .unset, .unset] [(.int pr2), (.int pr1)])) (fun _ k => XS.iload X45.here hx rfl (hb hby at_215) rfl k) ?_
        by_cases qb : pr1 = pr2
        · refine own_st (T' := T45) (g' := (mkF m 220 #[.val (.int p0), .val (.int p1), .val (.int p2), .val (.int p3), .val (.int p4), .val (.int p5), .val (.int pc), .val (.int ev1), .val (.int pr1), .val (.int ev2), .val (.int pr2), .val (.int ev3), .val (.int pr3), .val (.ref c1), .val (.ref c2), .val (.ref sa), .val (.ref sb), .val (.ref u), .val e1, .val (.ref sb), .val e3, .unset, .unset, .unset] [])) (fun _ k => XS.icmpNo X45.here hx rfl (hb hby at_217) rfl (Jvm.Free.XT.ii_ne_f qb) k) ?_
          refine own_st (T' := T45) (g' := (mkF m 221 #[.val (.int p0), .val (.int p1), .val (.int p2), .val (.int p3), .val (.int p4), .val (.int p5), .val (.int pc), .val (.int ev1), .val (.int pr1), .val (.int ev2), .val (.int pr2), .val (.int ev3), .val (.int pr3), .val (.ref c1), .val (.ref c2), .val (.ref sa), .val (.ref sb), .val (.ref u), .val e1, .val (.ref sb), .val e3, .unset, .unset, .unset] [(.int (1 : Int32))])) (fun _ k => XS.iconst X45.here hx rfl (hb hby at_220) k) ?_
          refine own_st (T' := T45) (g' := (mkF m 225 #[.val (.int p0), .val (.int p1), .val (.int p2), .val (.int p3), .val (.int p4), .val (.int p5), .val (.int pc), .val (.int ev1), .val (.int pr1), .val (.int ev2), .val (.int pr2), .val (.int ev3), .val (.int pr3), .val (.ref c1), .val (.ref c2), .val (.ref sa), .val (.ref sb), .val (.ref u), .val e1, .val (.ref sb), .val e3, .unset, .unset, .unset] [(.int (1 : Int32))])) (fun _ k => XS.goto X45.here hx rfl (pc0 := 221) (pc' := 225) rfl (hb hby at_221) (by decide) (by decide) k) ?_
          exact J225 _ (by simp [inj12, qa, qb])
        · refine own_st (T' := T45) (g' := (mkF m 224 #[.val (.int p0), .val (.int p1), .val (.int p2), .val (.int p3), .val (.int p4), .val (.int p5), .val (.int pc), .val (.int ev1), .val (.int pr1), .val (.int ev2), .val (.int pr2), .val (.int ev3), .val (.int pr3), .val (.ref c1), .val (.ref c2), .val (.ref sa), .val (.ref sb), .val (.ref u), .val e1, .val (.ref sb), .val e3, .unset, .unset, .unset] [])) (fun _ k => XS.icmpYes X45.here hx rfl (pc0 := 217) (pc' := 224) rfl (hb hby at_217) rfl (Jvm.Free.XT.ii_ne_t qb) (by decide) (by decide) k) ?_
          refine own_st (T' := T45) (g' := (mkF m 225 #[.val (.int p0), .val (.int p1), .val (.int p2), .val (.int p3), .val (.int p4), .val (.int p5), .val (.int pc), .val (.int ev1), .val (.int pr1), .val (.int ev2), .val (.int pr2), .val (.int ev3), .val (.int pr3), .val (.ref c1), .val (.ref c2), .val (.ref sa), .val (.ref sb), .val (.ref u), .val e1, .val (.ref sb), .val e3, .unset, .unset, .unset] [(.int (0 : Int32))])) (fun _ k => XS.iconst X45.here hx rfl (hb hby at_224) k) ?_
          exact J225 _ (by simp [inj12, qa, qb])
      · refine own_st (T' := T45) (g' := (mkF m 224 #[.val (.int p0), .val (.int p1), .val (.int p2), .val (.int p3), .val (.int p4), .val (.int p5), .val (.int pc), .val (.int ev1), .val (.int pr1), .val (.int ev2), .val (.int pr2), .val (.int ev3), .val (.int pr3), .val (.ref c1), .val (.ref c2), .val (.ref sa), .val (.ref sb), .val (.ref u), .val e1, .val (.ref sb), .val e3, .unset, .unset, .unset] [])) (fun _ k => XS.icmpYes X45.here hx rfl (pc0 := 210) (pc' := 224) rfl (hb hby at_210) rfl (Jvm.Free.XT.ii_ne_t qa) (by decide) (by decide) k) ?_
        refine own_st (T' := T45) (g' := (mkF m 225 #[.val (.int p0), .val (.int p1), .val (.int p2), .val (.int p3), .val (.int p4), .val (.int p5), .val (.int pc), .val (.int ev1), .val (.int pr1), .val (.int ev2), .val (.int pr2), .val (.int ev3), .val (.int pr3), .val (.ref c1), .val (.ref c2), .val (.ref sa), .val (.ref sb), .val (.ref u), .val e1, .val (.ref sb), .val e3, .unset, .unset, .unset] [(.int (0 : Int32))])) (fun _ k => XS.iconst X45.here hx rfl (hb hby at_224) k) ?_
        exact J225 _ (by simp [inj12, qa])
    exact J46 _ _ _ _ _ _ (own_masks _).1 (own_ush _ _ (by omega)) (own_masks _).1 (own_ush _ _ (by omega)) (own_masks _).1 (own_ush _ _ (by omega))
  have g1 := (own_masks p0).2
  have g0 : (1 : Int32).toInt = 1 := rfl
  have g2 : ((1 : Int32) + (p0 &&& (3 : Int32))).toInt = (1 : Int32).toInt + (p0 &&& (3 : Int32)).toInt := Jvm.Free.XT.add32 ⟨by omega, by omega⟩
  exact J7 _ (by omega)
set_option maxRecDepth 65536 in
set_option maxHeartbeats 40000000 in
theorem comes_1 {Post : Tables → Env → Array Value → State → Outcome → State → Prop} (hpost : ∀ tb e args s v u, (limb_1_1.after args s (.returned v) u = true ∧ limb_1_2.after args s (.returned v) u = true ∧ True) → FrameEnd s (.returned v) u (Jvm.fieldLocs frame_1_writes args s ++ Jvm.arrayLocs frame_1_arrays args s ++ Jvm.staticLocs frame_1_statics s) 32 320 → Post tb e args s (.returned v) u) :
    ArmFor flags0 classFile x code maxLocals ret World_1 tables_1 room_1 Calls_1 rest_1 Pre_1 Post := by
  intro l hfl _ _ p e ha hc hk s m args below hf hA hF happ hP
  obtain ⟨hcalls, hrest, hpre⟩ := hP
  obtain ⟨-, -, -, hnamed, -, -, -, hat⟩ := (Spec.applies_iff hf).mp happ
  obtain ⟨hg, hn⟩ := and_e (Cond.before_iff.mp (show (Jvm.Cond.and given_1 narrow_1).before args s = true from hpre))
  obtain ⟨hcount, r0⟩ := and_e hg
  obtain ⟨hk0, r1⟩ := and_e r0
  obtain ⟨hk1, r2⟩ := and_e r1
  obtain ⟨hk2, r3⟩ := and_e r2
  obtain ⟨hk3, r4⟩ := and_e r3
  obtain ⟨hk4, r5⟩ := and_e r4
  have hk5 := r5
  obtain ⟨w0, w1, w2, w3, w4, w5, rfl⟩ : ∃ w0 w1 w2 w3 w4 w5 : Value, args = #[w0, w1, w2, w3, w4, w5] := by
    have hs : args.size = 6 := by simpa [Cond.value, given_1] using hcount
    obtain ⟨L⟩ := args
    match L, hs with
    | [w0, w1, w2, w3, w4, w5], _ => exact ⟨w0, w1, w2, w3, w4, w5, rfl⟩
  have hw := fun d (hd : d ∈ tables_1) => atoms_spec (ws := Jvm.Cond.code x code maxLocals ret :: tables_1) hat d (List.mem_cons_of_mem _ hd)
  have hfit : Fit s := fun {y c} hc i hi => by
    obtain ⟨ha, rfl⟩ := Array.getElem?_eq_some_iff.mp hc
    have q := List.all_eq_true.mp ((Array.all_eq_true_iff_forall_mem.mp hF) _ (Array.getElem_mem ha)) i (List.mem_range.mpr hi)
    simpa [Array.getElem?_eq_getElem hi] using q
  obtain ⟨hsets, hown0⟩ := atoms_of _ (rest_1_c_eq ▸ (show rest_1_c.before _ s = true from hrest))
  obtain ⟨i0, ei0⟩ := is_v hk0
  obtain rfl : w0 = (.int i0) := Option.some.inj ei0
  obtain ⟨i1, ei1⟩ := is_v hk1
  obtain rfl : w1 = (.int i1) := Option.some.inj ei1
  obtain ⟨i2, ei2⟩ := is_v hk2
  obtain rfl : w2 = (.int i2) := Option.some.inj ei2
  obtain ⟨i3, ei3⟩ := is_v hk3
  obtain rfl : w3 = (.int i3) := Option.some.inj ei3
  obtain ⟨i4, ei4⟩ := is_v hk4
  obtain rfl : w4 = (.int i4) := Option.some.inj ei4
  obtain ⟨i5, ei5⟩ := is_v hk5
  obtain rfl : w5 = (.int i5) := Option.some.inj ei5
  obtain ⟨cs, evC⟩ := is_v (Cond.before_iff.mp (hsets _ (List.mem_of_getElem? (i := 1) rfl)))
  have SC := Sta.start evC (Or.inl (hsets _ (List.mem_of_getElem? (i := 0) rfl)))
  have hcs : ¬ cs = (0 : Int32) := fun q => by
    have u := not_v (Cond.before_iff.mp (hsets _ (List.mem_of_getElem? (i := 2) rfl)))
    rw [q] at evC
    exact absurd u (by rw [eq_i evC (Term.int_eval 0) rfl]; decide)
  obtain ⟨n, o, h1, h2, h3, _, L, rfl, ⟨rfl, N⟩, hq⟩ := own_law l s _ hw tables_1 i0 i1 i2 i3 i4 i5 cs s.heap s.heap.size (Nat.le_refl _) (Old.start s) SC hcs p e ha hc hk s m _ below hf ((Spec.applies_iff_loose hf).mp happ).1 ⟨rfl, State.Warmed39.refl s, rfl⟩ trivial
  refine ⟨n, _, h1, h2, h3, hpost _ _ _ _ _ _ ⟨Cond.after_iff.mpr rfl, Cond.after_iff.mpr (eq_i res_at (Term.int_eval (1)) rfl), trivial⟩ ⟨hq.1, hq.2.1, (hq.2.2.sift fun y hy => Or.inr (N y hy)).mono (by decide) (by decide)⟩⟩
theorem main_1_1 : Claimed_1_1 := comes_1 fun _ _ _ _ _ _ h hF => ⟨h.1, hF⟩
theorem main_1_2 : Claimed_1_2 := comes_1 fun _ _ _ _ _ _ h hF => ⟨h.2.1, hF⟩
end Jvm.Pilot.@@N@@
namespace Jvm.Pilot.@@N@@
open Jvm Jvm.ClassFile Sem Op Lib Jvm.Free Jvm.Stand Jvm.Pilot.@@N@@.Jvm.D
/-! MADE BY PROGRAM (witnessworld.py) out of the Statement's table words and the real class files: 23 classes; the members and pool entries that the words name. The judged class is class 1, her method 1. -/
namespace start1
open Jvm.ClassFile
def u (s : String) : CpInfo := .utf8 (stringToUtf16 s)
/-- a pool by its gaps: so many unusable entries, then the entry; so many at the end -/
def gap : Nat → List CpInfo → List CpInfo
  | 0, r => r
  | n + 1, r => .unusable :: gap n r
def poolList (es : List (Nat × CpInfo)) (last : Nat) : List CpInfo := es.foldr (fun e r => gap e.1 (e.2 :: r)) (gap last [])
def pool (es : List (Nat × CpInfo)) (last : Nat) : Array CpInfo := ⟨poolList es last⟩
def fileOf (pool : Array CpInfo) (this : Nat) (attrs : Array Attribute := #[]) (ms : Array MethodInfo := #[]) (fl : Nat := 33) (sup : Nat := 0) (ifs : Array Nat := #[]) (fds : Array FieldInfo := #[]) : ClassFile where
  minorVersion := 0
  majorVersion := 65
  constantPool := pool
  accessFlags := fl
  thisClass := this
  superClass := sup
  interfaces := ifs
  fields := fds
  methods := ms
  attributes := attrs
def plain (name : String) (sup : Option ClassId) : Class where
  name := name
  kind := .ordinary
  loader := none
  accessFlags := 33
  super := sup
  interfaces := #[]
  cf := none
  fields := #[]
  methods := #[]
  instanceTypes := #[]
  staticTypes := #[]
  resolved := #[]
  callSites := []
  init := .initialized
  statics := none
  mirror := none

def pool0 : Array CpInfo := pool [(5, u "<init>"), (0, u "()V"), (1, .class_ 10), (1, u "java/lang/Object")] 113

def k0c0 : Code := { maxStack := 0, maxLocals := 1, code := object_method_1_code, exceptionTable := #[], attributes := #[] }
def k0m0 : Method := { name := "<init>", desc := "()V", sig := { parameters := [], returnType := none }, accessFlags := 1, code := some k0c0 }
/-- java/lang/Object -/
def k0 : Class := { plain "java/lang/Object" none with
  accessFlags := 33
  interfaces := #[]
  cf := some (fileOf pool0 8 #[] #[{ accessFlags := 1, nameIndex := 5, descriptorIndex := 6, attributes := #[] }] 33 0 #[] #[])
  fields := #[]
  methods := #[k0m0]
  instanceTypes := #[]
  staticTypes := #[]
  resolved := Array.replicate 124 none
  statics := none }

def pool1 : Array CpInfo := pool [(2, .class_ 4), (1, u "java/lang/Object"), (0, u "<init>"), (0, u "()V"), (0, .class_ 8), (0, u "java/lang/String"), (0, .methodref 7 10), (0, .nameAndType 5 11), (0, u "([C)V"), (0, .class_ 13), (0, u "com/example/funnelwright/funnelwright/UserEvents"), (0, .methodref 12 15), (0, .nameAndType 5 16), (0, u "(I)V"), (0, .methodref 12 18), (0, .nameAndType 19 20), (0, u "add"), (0, u "(JI)I"), (0, .methodref 12 22), (0, .nameAndType 23 24), (0, u "setProperty"), (0, u "(IILjava/lang/String;)V"), (0, .methodref 12 26), (0, .nameAndType 27 28), (0, u "property"), (0, u "(II)Ljava/lang/String;"), (0, .class_ 30), (0, u "com/example/funnelwright/funnelwright/UserEventsPropertyPinLaw"), (2, u "law"), (0, u "(IIIIII)Z")] 5

def k1m0 : Method := { name := "<init>", desc := "()V", sig := { parameters := [], returnType := none }, accessFlags := 1, code := none }
def k1c1 : Code := { maxStack := 5, maxLocals := 24, code := code, exceptionTable := #[], attributes := #[] }
def k1m1 : Method := { name := "law", desc := "(IIIIII)Z", sig := { parameters := [.int, .int, .int, .int, .int, .int], returnType := some .boolean }, accessFlags := 9, code := some k1c1 }
/-- com/example/funnelwright/funnelwright/UserEventsPropertyPinLaw -/
def k1 : Class := { plain "com/example/funnelwright/funnelwright/UserEventsPropertyPinLaw" (some 0) with
  accessFlags := 49
  interfaces := #[]
  cf := some (fileOf pool1 29 #[] #[{ accessFlags := 1, nameIndex := 5, descriptorIndex := 6, attributes := #[] }, { accessFlags := 9, nameIndex := 33, descriptorIndex := 34, attributes := #[] }] 49 2 #[] #[])
  fields := #[]
  methods := #[k1m0, k1m1]
  instanceTypes := #[]
  staticTypes := #[]
  resolved := Array.replicate 40 none
  statics := none }

def pool2 : Array CpInfo := pool [(1, .class_ 2), (0, u "java/io/Serializable"), (0, .class_ 4), (0, u "java/lang/Object")] 2

/-- java/io/Serializable -/
def k2 : Class := { plain "java/io/Serializable" (some 0) with
  accessFlags := 1537
  interfaces := #[]
  cf := some (fileOf pool2 1 #[] #[] 1537 3 #[] #[])
  fields := #[]
  methods := #[]
  instanceTypes := #[]
  staticTypes := #[]
  resolved := Array.replicate 7 none
  statics := none }

def pool3 : Array CpInfo := pool [(1, .class_ 2), (0, u "java/lang/Comparable"), (0, .class_ 4), (0, u "java/lang/Object")] 7

/-- java/lang/Comparable -/
def k3 : Class := { plain "java/lang/Comparable" (some 0) with
  accessFlags := 1537
  interfaces := #[]
  cf := some (fileOf pool3 1 #[] #[] 1537 3 #[] #[])
  fields := #[]
  methods := #[]
  instanceTypes := #[]
  staticTypes := #[]
  resolved := Array.replicate 12 none
  statics := none }

def pool4 : Array CpInfo := pool [(2, .class_ 4), (1, u "java/lang/CharSequence"), (42, .class_ 48), (0, u "java/lang/CharSequence$1CodePointIterator"), (10, .class_ 60), (0, u "java/lang/CharSequence$1CharIterator"), (5, .class_ 67), (0, u "java/lang/Object")] 63

/-- java/lang/CharSequence -/
def k4 : Class := { plain "java/lang/CharSequence" (some 0) with
  accessFlags := 1537
  interfaces := #[]
  cf := some (fileOf pool4 2 #[.nestMembers #[47, 59]] #[] 1537 66 #[] #[])
  fields := #[]
  methods := #[]
  instanceTypes := #[]
  staticTypes := #[]
  resolved := Array.replicate 131 none
  statics := none }

def pool5 : Array CpInfo := pool [(1, .class_ 2), (0, u "java/lang/constant/Constable"), (0, .class_ 4), (0, u "java/lang/Object")] 6

/-- java/lang/constant/Constable -/
def k5 : Class := { plain "java/lang/constant/Constable" (some 0) with
  accessFlags := 1537
  interfaces := #[]
  cf := some (fileOf pool5 1 #[] #[] 1537 3 #[] #[])
  fields := #[]
  methods := #[]
  instanceTypes := #[]
  staticTypes := #[]
  resolved := Array.replicate 11 none
  statics := none }

def pool6 : Array CpInfo := pool [(1, .class_ 2), (0, u "java/lang/constant/ConstantDesc"), (0, .class_ 4), (0, u "java/lang/Object")] 32

/-- java/lang/constant/ConstantDesc -/
def k6 : Class := { plain "java/lang/constant/ConstantDesc" (some 0) with
  accessFlags := 1537
  interfaces := #[]
  cf := some (fileOf pool6 1 #[] #[] 1537 3 #[] #[])
  fields := #[]
  methods := #[]
  instanceTypes := #[]
  staticTypes := #[]
  resolved := Array.replicate 37 none
  statics := none }

def pool7 : Array CpInfo := pool [(1, .methodref 2 3), (0, .class_ 4), (0, .nameAndType 5 6), (0, u "java/lang/Object"), (0, u "<init>"), (0, u "()V"), (2, .fieldref 10 11), (0, .class_ 12), (0, .nameAndType 13 14), (0, u "java/lang/String"), (0, u "value"), (0, u "[B"), (0, .fieldref 10 16), (0, .nameAndType 17 18), (0, u "coder"), (0, u "B"), (2, u "hash"), (0, u "I"), (2, u "hashIsZero"), (0, u "Z"), (0, .methodref 10 28), (0, .nameAndType 5 29), (0, u "([CIILjava/lang/Void;)V"), (8, .fieldref 10 39), (0, .nameAndType 40 26), (0, u "COMPACT_STRINGS"), (1, .class_ 44), (1, u "java/lang/StringUTF16"), (0, u "compress"), (1, .methodref 42 48), (0, .nameAndType 49 50), (0, u "coderFromArrayLen"), (0, u "([BI)B"), (126, .methodref 42 178), (0, .nameAndType 45 179), (0, u "([CII)[B"), (395, .class_ 576), (0, u "java/lang/CharSequence"), (22, u "CASE_INSENSITIVE_ORDER"), (0, u "Ljava/util/Comparator;"), (409, u "([C)V"), (90, u "serialPersistentFields"), (0, u "[Ljava/io/ObjectStreamField;"), (0, .class_ 1104), (0, u "java/lang/String$CaseInsensitiveComparator"), (1, .class_ 1107), (0, u "java/io/Serializable"), (0, .class_ 1109), (0, u "java/lang/Comparable"), (0, .class_ 1111), (0, u "java/lang/constant/Constable"), (0, .class_ 1113), (0, u "java/lang/constant/ConstantDesc"), (2, u "serialVersionUID"), (0, u "J"), (3, u "REPL"), (0, u "C"), (2, u "LATIN1"), (1, u "UTF16")] 323

def k7m0 : Method := { name := "<init>", desc := "()V", sig := { parameters := [], returnType := none }, accessFlags := 1, code := none }
def k7c1 : Code := { maxStack := 5, maxLocals := 2, code := jdk_42_method_3_code, exceptionTable := #[], attributes := #[] }
def k7m1 : Method := { name := "<init>", desc := "([C)V", sig := { parameters := [(.array .char)], returnType := none }, accessFlags := 1, code := some k7c1 }
def k7c2 : Code := { maxStack := 4, maxLocals := 6, code := jdk_42_method_149_code, exceptionTable := #[], attributes := #[] }
def k7m2 : Method := { name := "<init>", desc := "([CIILjava/lang/Void;)V", sig := { parameters := [(.array .char), .int, .int, (.object "java/lang/Void")], returnType := none }, accessFlags := 2, code := some k7c2 }
/-- java/lang/String -/
def k7 : Class := { plain "java/lang/String" (some 0) with
  accessFlags := 49
  interfaces := #[2, 3, 4, 5, 6]
  cf := some (fileOf pool7 10 #[.nestMembers #[1103]] #[{ accessFlags := 1, nameIndex := 5, descriptorIndex := 6, attributes := #[] }, { accessFlags := 1, nameIndex := 5, descriptorIndex := 1010, attributes := #[] }, { accessFlags := 2, nameIndex := 5, descriptorIndex := 29, attributes := #[] }] 49 2 #[1106, 1108, 575, 1110, 1112] #[{ accessFlags := 18, nameIndex := 13, descriptorIndex := 14, attributes := #[] }, { accessFlags := 18, nameIndex := 17, descriptorIndex := 18, attributes := #[] }, { accessFlags := 2, nameIndex := 21, descriptorIndex := 22, attributes := #[] }, { accessFlags := 2, nameIndex := 25, descriptorIndex := 26, attributes := #[] }, { accessFlags := 26, nameIndex := 1116, descriptorIndex := 1117, attributes := #[] }, { accessFlags := 24, nameIndex := 40, descriptorIndex := 26, attributes := #[] }, { accessFlags := 26, nameIndex := 1101, descriptorIndex := 1102, attributes := #[] }, { accessFlags := 26, nameIndex := 1121, descriptorIndex := 1122, attributes := #[] }, { accessFlags := 25, nameIndex := 599, descriptorIndex := 600, attributes := #[] }, { accessFlags := 24, nameIndex := 1125, descriptorIndex := 18, attributes := #[] }, { accessFlags := 24, nameIndex := 1127, descriptorIndex := 18, attributes := #[] }])
  fields := #[{ name := "value", type := (.array .byte), accessFlags := 18, slot := 0, constantValue := 0 }, { name := "coder", type := .byte, accessFlags := 18, slot := 1, constantValue := 0 }, { name := "hash", type := .int, accessFlags := 2, slot := 2, constantValue := 0 }, { name := "hashIsZero", type := .boolean, accessFlags := 2, slot := 3, constantValue := 0 }, { name := "serialVersionUID", type := .long, accessFlags := 26, slot := 0, constantValue := 0 }, { name := "COMPACT_STRINGS", type := .boolean, accessFlags := 24, slot := 1, constantValue := 0 }, { name := "serialPersistentFields", type := (.array (.object "java/io/ObjectStreamField")), accessFlags := 26, slot := 2, constantValue := 0 }, { name := "REPL", type := .char, accessFlags := 26, slot := 3, constantValue := 0 }, { name := "CASE_INSENSITIVE_ORDER", type := (.object "java/util/Comparator"), accessFlags := 25, slot := 4, constantValue := 0 }, { name := "LATIN1", type := .byte, accessFlags := 24, slot := 5, constantValue := 0 }, { name := "UTF16", type := .byte, accessFlags := 24, slot := 6, constantValue := 0 }]
  methods := #[k7m0, k7m1, k7m2]
  instanceTypes := #[(.array .byte), .byte, .int, .boolean]
  staticTypes := #[.long, .boolean, (.array (.object "java/io/ObjectStreamField")), .char, (.object "java/util/Comparator"), .byte, .byte]
  resolved := Array.replicate 1451 none
  statics := some 0 }

def pool8 : Array CpInfo := pool [(6, .class_ 8), (1, u "java/lang/Object"), (0, u "<init>"), (0, u "()V"), (1, .class_ 14), (1, u "java/lang/StringUTF16"), (31, u "$assertionsDisabled"), (0, u "Z"), (13, u "HI_BYTE_SHIFT"), (0, u "I"), (2, u "LO_BYTE_SHIFT"), (49, .methodref 12 116), (0, .nameAndType 117 118), (0, u "compress"), (0, u "([CI[BII)I"), (3, u "([CII)[B"), (138, u "coderFromArrayLen"), (0, u "([BI)B"), (106, .class_ 371), (1, u "java/lang/StringUTF16$LinesSpliterator"), (58, u "MAX_LENGTH"), (196, .class_ 628), (0, u "java/lang/StringUTF16$CodePointsSpliterator"), (0, .class_ 630), (0, u "java/lang/StringUTF16$CharsSpliterator")] 4

def k8m0 : Method := { name := "<init>", desc := "()V", sig := { parameters := [], returnType := none }, accessFlags := 0, code := none }
def k8c1 : Code := { maxStack := 2, maxLocals := 2, code := jdk_52_method_15_code, exceptionTable := #[], attributes := #[] }
def k8m1 : Method := { name := "coderFromArrayLen", desc := "([BI)B", sig := { parameters := [(.array .byte), .int], returnType := some .byte }, accessFlags := 8, code := some k8c1 }
def k8c2 : Code := { maxStack := 5, maxLocals := 6, code := jdk_52_method_16_code, exceptionTable := #[], attributes := #[] }
def k8m2 : Method := { name := "compress", desc := "([CII)[B", sig := { parameters := [(.array .char), .int, .int], returnType := some (.array .byte) }, accessFlags := 9, code := some k8c2 }
def k8c3 : Code := { maxStack := 3, maxLocals := 7, code := jdk_52_method_21_code, exceptionTable := #[], attributes := #[] }
def k8m3 : Method := { name := "compress", desc := "([CI[BII)I", sig := { parameters := [(.array .char), .int, (.array .byte), .int, .int], returnType := some .int }, accessFlags := 9, code := some k8c3 }
/-- java/lang/StringUTF16 -/
def k8 : Class := { plain "java/lang/StringUTF16" (some 0) with
  accessFlags := 48
  interfaces := #[]
  cf := some (fileOf pool8 12 #[.nestMembers #[627, 629, 369]] #[{ accessFlags := 0, nameIndex := 9, descriptorIndex := 10, attributes := #[] }, { accessFlags := 8, nameIndex := 261, descriptorIndex := 262, attributes := #[] }, { accessFlags := 9, nameIndex := 117, descriptorIndex := 122, attributes := #[] }, { accessFlags := 9, nameIndex := 117, descriptorIndex := 118, attributes := #[] }] 48 6 #[] #[{ accessFlags := 26, nameIndex := 61, descriptorIndex := 62, attributes := #[] }, { accessFlags := 26, nameIndex := 65, descriptorIndex := 62, attributes := #[] }, { accessFlags := 24, nameIndex := 430, descriptorIndex := 62, attributes := #[] }, { accessFlags := 4120, nameIndex := 46, descriptorIndex := 47, attributes := #[] }])
  fields := #[{ name := "HI_BYTE_SHIFT", type := .int, accessFlags := 26, slot := 0, constantValue := 0 }, { name := "LO_BYTE_SHIFT", type := .int, accessFlags := 26, slot := 1, constantValue := 0 }, { name := "MAX_LENGTH", type := .int, accessFlags := 24, slot := 2, constantValue := 0 }, { name := "$assertionsDisabled", type := .boolean, accessFlags := 4120, slot := 3, constantValue := 0 }]
  methods := #[k8m0, k8m1, k8m2, k8m3]
  instanceTypes := #[]
  staticTypes := #[.int, .int, .int, .boolean]
  resolved := Array.replicate 635 none
  statics := none }

def pool9 : Array CpInfo := pool [(1, .methodref 2 3), (0, .class_ 4), (0, .nameAndType 5 6), (0, u "java/lang/Object"), (0, u "<init>"), (0, u "()V"), (0, .fieldref 8 9), (0, .class_ 10), (0, .nameAndType 11 12), (0, u "com/example/funnelwright/funnelwright/UserEvents"), (0, u "id"), (0, u "[B"), (0, .fieldref 8 14), (0, .nameAndType 15 16), (0, u "times"), (0, u "[J"), (0, .fieldref 8 18), (0, .nameAndType 19 20), (0, u "kinds"), (0, u "[I"), (0, .fieldref 8 22), (0, .nameAndType 23 24), (0, u "propertyCount"), (0, u "I"), (0, .class_ 26), (0, u "java/lang/String"), (0, .fieldref 8 28), (0, .nameAndType 29 30), (0, u "properties"), (0, u "[Ljava/lang/String;"), (2, u "userId"), (0, u "Ljava/lang/String;"), (2, u "idLength"), (9, .fieldref 8 48), (0, .nameAndType 49 24), (0, u "size"), (25, u "(I)V"), (9, u "property"), (0, u "(II)Ljava/lang/String;"), (2, u "add"), (0, u "(JI)I"), (0, u "setProperty"), (0, u "(IILjava/lang/String;)V")] 4

def k9c0 : Code := { maxStack := 3, maxLocals := 2, code := prog_22_method_1_code, exceptionTable := #[], attributes := #[] }
def k9m0 : Method := { name := "<init>", desc := "(I)V", sig := { parameters := [.int], returnType := none }, accessFlags := 0, code := some k9c0 }
def k9c1 : Code := { maxStack := 3, maxLocals := 3, code := prog_22_method_6_code, exceptionTable := #[], attributes := #[] }
def k9m1 : Method := { name := "property", desc := "(II)Ljava/lang/String;", sig := { parameters := [.int, .int], returnType := some (.object "java/lang/String") }, accessFlags := 1, code := some k9c1 }
def k9c2 : Code := { maxStack := 4, maxLocals := 4, code := prog_22_method_8_code, exceptionTable := #[], attributes := #[] }
def k9m2 : Method := { name := "add", desc := "(JI)I", sig := { parameters := [.long, .int], returnType := some .int }, accessFlags := 0, code := some k9c2 }
def k9c3 : Code := { maxStack := 3, maxLocals := 4, code := prog_22_method_9_code, exceptionTable := #[], attributes := #[] }
def k9m3 : Method := { name := "setProperty", desc := "(IILjava/lang/String;)V", sig := { parameters := [.int, .int, (.object "java/lang/String")], returnType := none }, accessFlags := 0, code := some k9c3 }
/-- com/example/funnelwright/funnelwright/UserEvents -/
def k9 : Class := { plain "com/example/funnelwright/funnelwright/UserEvents" (some 0) with
  accessFlags := 33
  interfaces := #[]
  cf := some (fileOf pool9 8 #[] #[{ accessFlags := 0, nameIndex := 5, descriptorIndex := 75, attributes := #[] }, { accessFlags := 1, nameIndex := 85, descriptorIndex := 86, attributes := #[] }, { accessFlags := 0, nameIndex := 89, descriptorIndex := 90, attributes := #[] }, { accessFlags := 0, nameIndex := 91, descriptorIndex := 92, attributes := #[] }] 33 2 #[] #[{ accessFlags := 18, nameIndex := 23, descriptorIndex := 24, attributes := #[] }, { accessFlags := 2, nameIndex := 11, descriptorIndex := 12, attributes := #[] }, { accessFlags := 2, nameIndex := 37, descriptorIndex := 24, attributes := #[] }, { accessFlags := 2, nameIndex := 33, descriptorIndex := 34, attributes := #[] }, { accessFlags := 2, nameIndex := 15, descriptorIndex := 16, attributes := #[] }, { accessFlags := 2, nameIndex := 19, descriptorIndex := 20, attributes := #[] }, { accessFlags := 2, nameIndex := 29, descriptorIndex := 30, attributes := #[] }, { accessFlags := 2, nameIndex := 49, descriptorIndex := 24, attributes := #[] }])
  fields := #[{ name := "propertyCount", type := .int, accessFlags := 18, slot := 0, constantValue := 0 }, { name := "id", type := (.array .byte), accessFlags := 2, slot := 1, constantValue := 0 }, { name := "idLength", type := .int, accessFlags := 2, slot := 2, constantValue := 0 }, { name := "userId", type := (.object "java/lang/String"), accessFlags := 2, slot := 3, constantValue := 0 }, { name := "times", type := (.array .long), accessFlags := 2, slot := 4, constantValue := 0 }, { name := "kinds", type := (.array .int), accessFlags := 2, slot := 5, constantValue := 0 }, { name := "properties", type := (.array (.object "java/lang/String")), accessFlags := 2, slot := 6, constantValue := 0 }, { name := "size", type := .int, accessFlags := 2, slot := 7, constantValue := 0 }]
  methods := #[k9m0, k9m1, k9m2, k9m3]
  instanceTypes := #[.int, (.array .byte), .int, (.object "java/lang/String"), (.array .long), (.array .int), (.array (.object "java/lang/String")), .int]
  staticTypes := #[]
  resolved := Array.replicate 97 none
  statics := none }

def pool10 : Array CpInfo := pool [(4, .class_ 6), (1, u "java/lang/Object"), (0, u "<init>"), (0, u "()V"), (5, .class_ 16), (1, u "java/lang/StringLatin1"), (104, u "$assertionsDisabled"), (0, u "Z"), (98, .class_ 223), (1, u "java/lang/StringLatin1$LinesSpliterator"), (166, .class_ 391), (0, u "java/lang/StringLatin1$CharsSpliterator")] 3

def k10m0 : Method := { name := "<init>", desc := "()V", sig := { parameters := [], returnType := none }, accessFlags := 0, code := none }
/-- java/lang/StringLatin1 -/
def k10 : Class := { plain "java/lang/StringLatin1" (some 0) with
  accessFlags := 48
  interfaces := #[]
  cf := some (fileOf pool10 14 #[.nestMembers #[390, 221]] #[{ accessFlags := 0, nameIndex := 7, descriptorIndex := 8, attributes := #[] }] 48 4 #[] #[{ accessFlags := 4120, nameIndex := 121, descriptorIndex := 122, attributes := #[] }])
  fields := #[{ name := "$assertionsDisabled", type := .boolean, accessFlags := 4120, slot := 0, constantValue := 0 }]
  methods := #[k10m0]
  instanceTypes := #[]
  staticTypes := #[.boolean]
  resolved := Array.replicate 395 none
  statics := none }

def pool11 : Array CpInfo := pool [(2, .class_ 4), (1, u "java/lang/Object"), (0, u "<init>"), (0, u "()V"), (17, .class_ 26), (1, u "jdk/internal/util/Preconditions"), (28, .class_ 56), (0, u "jdk/internal/util/Preconditions$4"), (57, .class_ 115), (0, u "jdk/internal/util/Preconditions$1"), (7, u "SIOOBE_FORMATTER"), (0, u "Ljava/util/function/BiFunction;"), (0, .class_ 126), (0, u "jdk/internal/util/Preconditions$2"), (3, u "AIOOBE_FORMATTER"), (0, .class_ 132), (0, u "jdk/internal/util/Preconditions$3"), (3, u "IOOBE_FORMATTER")] 57

def k11m0 : Method := { name := "<init>", desc := "()V", sig := { parameters := [], returnType := none }, accessFlags := 1, code := none }
/-- jdk/internal/util/Preconditions -/
def k11 : Class := { plain "jdk/internal/util/Preconditions" (some 0) with
  accessFlags := 33
  interfaces := #[]
  cf := some (fileOf pool11 24 #[.nestMembers #[55, 131, 125, 114]] #[{ accessFlags := 1, nameIndex := 5, descriptorIndex := 6, attributes := #[] }] 33 2 #[] #[{ accessFlags := 25, nameIndex := 123, descriptorIndex := 124, attributes := #[] }, { accessFlags := 25, nameIndex := 130, descriptorIndex := 124, attributes := #[] }, { accessFlags := 25, nameIndex := 136, descriptorIndex := 124, attributes := #[] }])
  fields := #[{ name := "SIOOBE_FORMATTER", type := (.object "java/util/function/BiFunction"), accessFlags := 25, slot := 0, constantValue := 0 }, { name := "AIOOBE_FORMATTER", type := (.object "java/util/function/BiFunction"), accessFlags := 25, slot := 1, constantValue := 0 }, { name := "IOOBE_FORMATTER", type := (.object "java/util/function/BiFunction"), accessFlags := 25, slot := 2, constantValue := 0 }]
  methods := #[k11m0]
  instanceTypes := #[]
  staticTypes := #[(.object "java/util/function/BiFunction"), (.object "java/util/function/BiFunction"), (.object "java/util/function/BiFunction")]
  resolved := Array.replicate 194 none
  statics := some 1 }

def pool12 : Array CpInfo := pool [(9, u "<init>"), (6, .class_ 18), (1, u "java/lang/Object"), (0, u "()V"), (1, .class_ 23), (1, u "jdk/internal/util/ArraysSupport"), (0, u "LOG2_ARRAY_LONG_INDEX_SCALE"), (0, u "I"), (2, u "U"), (0, u "Ljdk/internal/misc/Unsafe;"), (8, u "BIG_ENDIAN"), (0, u "Z"), (8, u "LOG2_BYTE_BIT_SIZE"), (4, u "LOG2_ARRAY_INT_INDEX_SCALE"), (54, u "JLA"), (0, u "Ljdk/internal/access/JavaLangAccess;"), (11, u "LOG2_ARRAY_BOOLEAN_INDEX_SCALE"), (9, u "LOG2_ARRAY_BYTE_INDEX_SCALE"), (5, u "LOG2_ARRAY_CHAR_INDEX_SCALE"), (5, u "LOG2_ARRAY_SHORT_INDEX_SCALE"), (18, u "LOG2_ARRAY_FLOAT_INDEX_SCALE"), (24, u "LOG2_ARRAY_DOUBLE_INDEX_SCALE"), (89, u "T_BOOLEAN"), (2, u "T_CHAR"), (1, u "T_FLOAT"), (1, u "T_DOUBLE"), (1, u "T_BYTE"), (1, u "T_SHORT"), (1, u "T_INT"), (1, u "T_LONG"), (1, u "SOFT_MAX_ARRAY_LENGTH")] 83

def k12m0 : Method := { name := "<init>", desc := "()V", sig := { parameters := [], returnType := none }, accessFlags := 2, code := none }
/-- jdk/internal/util/ArraysSupport -/
def k12 : Class := { plain "jdk/internal/util/ArraysSupport" (some 0) with
  accessFlags := 33
  interfaces := #[]
  cf := some (fileOf pool12 21 #[] #[{ accessFlags := 2, nameIndex := 9, descriptorIndex := 19, attributes := #[] }] 33 16 #[] #[{ accessFlags := 24, nameIndex := 28, descriptorIndex := 29, attributes := #[] }, { accessFlags := 26, nameIndex := 38, descriptorIndex := 39, attributes := #[] }, { accessFlags := 25, nameIndex := 121, descriptorIndex := 25, attributes := #[] }, { accessFlags := 25, nameIndex := 131, descriptorIndex := 25, attributes := #[] }, { accessFlags := 25, nameIndex := 137, descriptorIndex := 25, attributes := #[] }, { accessFlags := 25, nameIndex := 143, descriptorIndex := 25, attributes := #[] }, { accessFlags := 25, nameIndex := 53, descriptorIndex := 25, attributes := #[] }, { accessFlags := 25, nameIndex := 24, descriptorIndex := 25, attributes := #[] }, { accessFlags := 25, nameIndex := 162, descriptorIndex := 25, attributes := #[] }, { accessFlags := 25, nameIndex := 187, descriptorIndex := 25, attributes := #[] }, { accessFlags := 26, nameIndex := 48, descriptorIndex := 25, attributes := #[] }, { accessFlags := 25, nameIndex := 277, descriptorIndex := 25, attributes := #[] }, { accessFlags := 25, nameIndex := 280, descriptorIndex := 25, attributes := #[] }, { accessFlags := 25, nameIndex := 282, descriptorIndex := 25, attributes := #[] }, { accessFlags := 25, nameIndex := 284, descriptorIndex := 25, attributes := #[] }, { accessFlags := 25, nameIndex := 286, descriptorIndex := 25, attributes := #[] }, { accessFlags := 25, nameIndex := 288, descriptorIndex := 25, attributes := #[] }, { accessFlags := 25, nameIndex := 290, descriptorIndex := 25, attributes := #[] }, { accessFlags := 25, nameIndex := 292, descriptorIndex := 25, attributes := #[] }, { accessFlags := 26, nameIndex := 108, descriptorIndex := 109, attributes := #[] }, { accessFlags := 25, nameIndex := 294, descriptorIndex := 25, attributes := #[] }])
  fields := #[{ name := "U", type := (.object "jdk/internal/misc/Unsafe"), accessFlags := 24, slot := 0, constantValue := 0 }, { name := "BIG_ENDIAN", type := .boolean, accessFlags := 26, slot := 1, constantValue := 0 }, { name := "LOG2_ARRAY_BOOLEAN_INDEX_SCALE", type := .int, accessFlags := 25, slot := 2, constantValue := 0 }, { name := "LOG2_ARRAY_BYTE_INDEX_SCALE", type := .int, accessFlags := 25, slot := 3, constantValue := 0 }, { name := "LOG2_ARRAY_CHAR_INDEX_SCALE", type := .int, accessFlags := 25, slot := 4, constantValue := 0 }, { name := "LOG2_ARRAY_SHORT_INDEX_SCALE", type := .int, accessFlags := 25, slot := 5, constantValue := 0 }, { name := "LOG2_ARRAY_INT_INDEX_SCALE", type := .int, accessFlags := 25, slot := 6, constantValue := 0 }, { name := "LOG2_ARRAY_LONG_INDEX_SCALE", type := .int, accessFlags := 25, slot := 7, constantValue := 0 }, { name := "LOG2_ARRAY_FLOAT_INDEX_SCALE", type := .int, accessFlags := 25, slot := 8, constantValue := 0 }, { name := "LOG2_ARRAY_DOUBLE_INDEX_SCALE", type := .int, accessFlags := 25, slot := 9, constantValue := 0 }, { name := "LOG2_BYTE_BIT_SIZE", type := .int, accessFlags := 26, slot := 10, constantValue := 0 }, { name := "T_BOOLEAN", type := .int, accessFlags := 25, slot := 11, constantValue := 0 }, { name := "T_CHAR", type := .int, accessFlags := 25, slot := 12, constantValue := 0 }, { name := "T_FLOAT", type := .int, accessFlags := 25, slot := 13, constantValue := 0 }, { name := "T_DOUBLE", type := .int, accessFlags := 25, slot := 14, constantValue := 0 }, { name := "T_BYTE", type := .int, accessFlags := 25, slot := 15, constantValue := 0 }, { name := "T_SHORT", type := .int, accessFlags := 25, slot := 16, constantValue := 0 }, { name := "T_INT", type := .int, accessFlags := 25, slot := 17, constantValue := 0 }, { name := "T_LONG", type := .int, accessFlags := 25, slot := 18, constantValue := 0 }, { name := "JLA", type := (.object "jdk/internal/access/JavaLangAccess"), accessFlags := 26, slot := 19, constantValue := 0 }, { name := "SOFT_MAX_ARRAY_LENGTH", type := .int, accessFlags := 25, slot := 20, constantValue := 0 }]
  methods := #[k12m0]
  instanceTypes := #[]
  staticTypes := #[(.object "jdk/internal/misc/Unsafe"), .boolean, .int, .int, .int, .int, .int, .int, .int, .int, .int, .int, .int, .int, .int, .int, .int, .int, .int, (.object "jdk/internal/access/JavaLangAccess"), .int]
  resolved := Array.replicate 378 none
  statics := none }

def pool13 : Array CpInfo := pool [(1, u "java/lang/Cloneable"), (0, .class_ 1), (0, u "java/lang/Object"), (0, .class_ 3)] 3

/-- java/lang/Cloneable -/
def k13 : Class := { plain "java/lang/Cloneable" (some 0) with
  accessFlags := 1537
  interfaces := #[]
  cf := some (fileOf pool13 2 #[] #[] 1537 4 #[] #[])
  fields := #[]
  methods := #[]
  instanceTypes := #[]
  staticTypes := #[]
  resolved := Array.replicate 8 none
  statics := none }

/-- the primitive byte -/
def k14 : Class := { plain "byte" none with kind := .primitive 'B', accessFlags := 0x411 }
/-- [B -/
def k15 : Class := { plain "[B" (some 0) with kind := .array 14 .byte, interfaces := #[13, 2], accessFlags := 1041 }

/-- the primitive char -/
def k16 : Class := { plain "char" none with kind := .primitive 'C', accessFlags := 0x411 }
/-- [C -/
def k17 : Class := { plain "[C" (some 0) with kind := .array 16 .char, interfaces := #[13, 2], accessFlags := 1041 }

/-- the primitive int -/
def k18 : Class := { plain "int" none with kind := .primitive 'I', accessFlags := 0x411 }
/-- [I -/
def k19 : Class := { plain "[I" (some 0) with kind := .array 18 .int, interfaces := #[13, 2], accessFlags := 1041 }

/-- the primitive long -/
def k20 : Class := { plain "long" none with kind := .primitive 'J', accessFlags := 0x411 }
/-- [J -/
def k21 : Class := { plain "[J" (some 0) with kind := .array 20 .long, interfaces := #[13, 2], accessFlags := 1041 }

/-- [Ljava/lang/String; -/
def k22 : Class := { plain "[Ljava/lang/String;" (some 0) with kind := .array 7 (.object "java/lang/String"), interfaces := #[13, 2], accessFlags := 1041 }

def heap : Heap := #[{ cls := 7, slots := #[.long 0, .int 1, .null, .int 0, .null, .int 0, .int 0], vm := .statics 7 },
  { cls := 11, slots := #[.null, .null, .null], vm := .statics 11 }]
def classes : Array Class := #[k0, k1, k2, k3, k4, k5, k6, k7, k8, k9, k10, k11, k12, k13, k14, k15, k16, k17, k18, k19, k20, k21, k22]
def interned : List (Array UInt16 × Addr) := []
def slotsUsed : Nat := 10
def theMethod : MethodId := ⟨1, 1⟩
def args0 : Array Value := #[.int 5, .int 5, .int 5, .int 5, .int 5, .int 5]
def aboutOver (below : List Frame) : State where
  vm := { classes := classes, interned := interned.toArray }
  heap := heap
  slotsUsed := slotsUsed
  threads := #[{ frames := .invoking theMethod args0 :: below }]
def below0 : List Frame := [.native { method := ⟨0, 0⟩, args := #[] }]
def about1 : State := aboutOver below0
def p0 : Program := .bare "" "" ""
def e0 : Env := launch0.env 0 0 0
theorem w_frames : about1.frames = Frame.invoking theMethod args0 :: below0 := rfl
set_option maxRecDepth 65536 in
theorem w_args : argsFit about1.vm theMethod args0 = true := by decide +kernel
set_option maxRecDepth 65536 in
theorem w_heap : heapFits about1 = true := by decide +kernel
set_option maxRecDepth 65536 in
theorem w_runnable : about1.curStatus? = some .runnable := by decide +kernel
set_option maxRecDepth 65536 in
theorem w_alone : about1.alone = true := by decide +kernel
set_option maxRecDepth 65536 in
theorem w_named : about1.methodNamed? x = some theMethod := by decide +kernel
set_option maxRecDepth 65536 in
theorem w_hears : about1.hears theMethod below0 = true := by decide +kernel
set_option maxRecDepth 65536 in
theorem w_ripe : about1.ripe theMethod args0 below0 = true := by decide +kernel
theorem w_running : about1.status = .running := rfl
set_option maxRecDepth 65536 in
theorem w_room : about1.hasRoom e0.platform room_1 = true :=
  launch0.hasRoom_least _ room_1 (by decide +kernel) (by decide +kernel) (by decide +kernel) (by decide +kernel) (by decide +kernel) (by decide +kernel)
theorem allAtoms_all (ts : List Jvm.Cond) (a : Array Jvm.Value) (st : Jvm.State) : (allAtoms ts).before a st = ts.all (fun c => c.before a st) := by
  induction ts with
  | nil => rfl
  | cons c t ih =>
    show (Jvm.Cond.and c (allAtoms t)).before a st = _
    rw [Jvm.Cond.before_and, ih, List.all_cons]
def words1 : List Jvm.Cond := Jvm.Cond.code x code maxLocals ret :: tables_1
/-- a 'code' word, met by the world's own term for the bytes: nothing is compared byte by byte -/
theorem code_word {y : MethodName} {bytes : ByteArray} {mx : Nat} {rt : Option FieldType} {a : Array Value} {s : State} {m : MethodId} {meth : Method} {c : Code} (h1 : s.methodNamed? y = some m) (h2 : s.vm.method? m = some meth) (h3 : meth.code = some c) (h4 : c.code = bytes)
    (h5 : (c.maxLocals == mx && c.exceptionTable.isEmpty && decide (c.maxStack ≤ mostOperands) && decide (meth.sig.returnType = rt) && !meth.locks && decide (parseMethodDescriptor y.desc = some meth.sig)) = true) : (Jvm.Cond.code y bytes mx rt).before a s = true := by
  simp only [Bool.and_eq_true, beq_iff_eq, Bool.not_eq_true', decide_eq_true_eq] at h5
  obtain ⟨⟨⟨⟨⟨g1, g2⟩, g3⟩, g4⟩, g5⟩, g6⟩ := h5
  simp [Cond.before, Cond.holds, Cond.value, h1, h2, h3, h4, g1, g2, g3, g4, g5, g6]
def isCode : Jvm.Cond → Bool
  | .code _ _ _ _ => true
  | _ => false
theorem all_split {L : List Jvm.Cond} {P : Jvm.Cond → Bool} (h1 : L.all (fun c => isCode c || P c) = true) (h2 : ∀ c ∈ L.filter isCode, P c = true) : L.all P = true := by
  refine List.all_eq_true.mpr fun c hc => ?_
  have h := List.all_eq_true.mp h1 c hc
  rcases Bool.eq_false_or_eq_true (isCode c) with hi | hi
  · exact h2 c (List.mem_filter.mpr ⟨hc, hi⟩)
  · simpa [hi] using h
set_option maxRecDepth 65536 in
theorem w_c0 : (Jvm.Cond.code x code maxLocals ret).before args0 about1 = true := code_word (m := ⟨1, 1⟩) (meth := k1m1) (c := k1c1) (by decide +kernel) rfl rfl rfl (by decide +kernel)
set_option maxRecDepth 65536 in
theorem w_c1 : (Jvm.Cond.code ({ cls := "java/lang/String", name := "<init>", desc := "([C)V" } : Jvm.MethodName) jdk_42_method_3_code (2 : Nat) (Option.none : Option Jvm.ClassFile.FieldType)).before args0 about1 = true := code_word (m := ⟨7, 1⟩) (meth := k7m1) (c := k7c1) (by decide +kernel) rfl rfl rfl (by decide +kernel)
set_option maxRecDepth 65536 in
theorem w_c2 : (Jvm.Cond.code ({ cls := "java/lang/String", name := "<init>", desc := "([CIILjava/lang/Void;)V" } : Jvm.MethodName) jdk_42_method_149_code (6 : Nat) (Option.none : Option Jvm.ClassFile.FieldType)).before args0 about1 = true := code_word (m := ⟨7, 2⟩) (meth := k7m2) (c := k7c2) (by decide +kernel) rfl rfl rfl (by decide +kernel)
set_option maxRecDepth 65536 in
theorem w_c3 : (Jvm.Cond.code ({ cls := "java/lang/Object", name := "<init>", desc := "()V" } : Jvm.MethodName) object_method_1_code (1 : Nat) (Option.none : Option Jvm.ClassFile.FieldType)).before args0 about1 = true := code_word (m := ⟨0, 0⟩) (meth := k0m0) (c := k0c0) (by decide +kernel) rfl rfl rfl (by decide +kernel)
set_option maxRecDepth 65536 in
theorem w_c4 : (Jvm.Cond.code ({ cls := "java/lang/StringUTF16", name := "compress", desc := "([CII)[B" } : Jvm.MethodName) jdk_52_method_16_code (6 : Nat) (Option.some (Jvm.ClassFile.FieldType.array Jvm.ClassFile.FieldType.byte))).before args0 about1 = true := code_word (m := ⟨8, 2⟩) (meth := k8m2) (c := k8c2) (by decide +kernel) rfl rfl rfl (by decide +kernel)
set_option maxRecDepth 65536 in
theorem w_c5 : (Jvm.Cond.code ({ cls := "java/lang/StringUTF16", name := "compress", desc := "([CI[BII)I" } : Jvm.MethodName) jdk_52_method_21_code (7 : Nat) (Option.some Jvm.ClassFile.FieldType.int)).before args0 about1 = true := code_word (m := ⟨8, 3⟩) (meth := k8m3) (c := k8c3) (by decide +kernel) rfl rfl rfl (by decide +kernel)
set_option maxRecDepth 65536 in
theorem w_c6 : (Jvm.Cond.code ({ cls := "java/lang/StringUTF16", name := "coderFromArrayLen", desc := "([BI)B" } : Jvm.MethodName) jdk_52_method_15_code (2 : Nat) (Option.some Jvm.ClassFile.FieldType.byte)).before args0 about1 = true := code_word (m := ⟨8, 1⟩) (meth := k8m1) (c := k8c1) (by decide +kernel) rfl rfl rfl (by decide +kernel)
set_option maxRecDepth 65536 in
theorem w_c7 : (Jvm.Cond.code ({ cls := "com/example/funnelwright/funnelwright/UserEvents", name := "<init>", desc := "(I)V" } : Jvm.MethodName) prog_22_method_1_code (2 : Nat) (Option.none : Option Jvm.ClassFile.FieldType)).before args0 about1 = true := code_word (m := ⟨9, 0⟩) (meth := k9m0) (c := k9c0) (by decide +kernel) rfl rfl rfl (by decide +kernel)
set_option maxRecDepth 65536 in
theorem w_c8 : (Jvm.Cond.code ({ cls := "com/example/funnelwright/funnelwright/UserEvents", name := "add", desc := "(JI)I" } : Jvm.MethodName) prog_22_method_8_code (4 : Nat) (Option.some Jvm.ClassFile.FieldType.int)).before args0 about1 = true := code_word (m := ⟨9, 2⟩) (meth := k9m2) (c := k9c2) (by decide +kernel) rfl rfl rfl (by decide +kernel)
set_option maxRecDepth 65536 in
theorem w_c9 : (Jvm.Cond.code ({ cls := "com/example/funnelwright/funnelwright/UserEvents", name := "setProperty", desc := "(IILjava/lang/String;)V" } : Jvm.MethodName) prog_22_method_9_code (4 : Nat) (Option.none : Option Jvm.ClassFile.FieldType)).before args0 about1 = true := code_word (m := ⟨9, 3⟩) (meth := k9m3) (c := k9c3) (by decide +kernel) rfl rfl rfl (by decide +kernel)
set_option maxRecDepth 65536 in
theorem w_c10 : (Jvm.Cond.code ({ cls := "com/example/funnelwright/funnelwright/UserEvents", name := "property", desc := "(II)Ljava/lang/String;" } : Jvm.MethodName) prog_22_method_6_code (3 : Nat) (Option.some (Jvm.ClassFile.FieldType.object "java/lang/String"))).before args0 about1 = true := code_word (m := ⟨9, 1⟩) (meth := k9m1) (c := k9c1) (by decide +kernel) rfl rfl rfl (by decide +kernel)
def codes1 : List Jvm.Cond := [Jvm.Cond.code x code maxLocals ret, Jvm.Cond.code ({ cls := "java/lang/String", name := "<init>", desc := "([C)V" } : Jvm.MethodName) jdk_42_method_3_code (2 : Nat) (Option.none : Option Jvm.ClassFile.FieldType), Jvm.Cond.code ({ cls := "java/lang/String", name := "<init>", desc := "([CIILjava/lang/Void;)V" } : Jvm.MethodName) jdk_42_method_149_code (6 : Nat) (Option.none : Option Jvm.ClassFile.FieldType), Jvm.Cond.code ({ cls := "java/lang/Object", name := "<init>", desc := "()V" } : Jvm.MethodName) object_method_1_code (1 : Nat) (Option.none : Option Jvm.ClassFile.FieldType), Jvm.Cond.code ({ cls := "java/lang/StringUTF16", name := "compress", desc := "([CII)[B" } : Jvm.MethodName) jdk_52_method_16_code (6 : Nat) (Option.some (Jvm.ClassFile.FieldType.array Jvm.ClassFile.FieldType.byte)), Jvm.Cond.code ({ cls := "java/lang/StringUTF16", name := "compress", desc := "([CI[BII)I" } : Jvm.MethodName) jdk_52_method_21_code (7 : Nat) (Option.some Jvm.ClassFile.FieldType.int), Jvm.Cond.code ({ cls := "java/lang/StringUTF16", name := "coderFromArrayLen", desc := "([BI)B" } : Jvm.MethodName) jdk_52_method_15_code (2 : Nat) (Option.some Jvm.ClassFile.FieldType.byte), Jvm.Cond.code ({ cls := "com/example/funnelwright/funnelwright/UserEvents", name := "<init>", desc := "(I)V" } : Jvm.MethodName) prog_22_method_1_code (2 : Nat) (Option.none : Option Jvm.ClassFile.FieldType), Jvm.Cond.code ({ cls := "com/example/funnelwright/funnelwright/UserEvents", name := "add", desc := "(JI)I" } : Jvm.MethodName) prog_22_method_8_code (4 : Nat) (Option.some Jvm.ClassFile.FieldType.int), Jvm.Cond.code ({ cls := "com/example/funnelwright/funnelwright/UserEvents", name := "setProperty", desc := "(IILjava/lang/String;)V" } : Jvm.MethodName) prog_22_method_9_code (4 : Nat) (Option.none : Option Jvm.ClassFile.FieldType), Jvm.Cond.code ({ cls := "com/example/funnelwright/funnelwright/UserEvents", name := "property", desc := "(II)Ljava/lang/String;" } : Jvm.MethodName) prog_22_method_6_code (3 : Nat) (Option.some (Jvm.ClassFile.FieldType.object "java/lang/String"))]
set_option maxRecDepth 65536 in
theorem codes_eq : words1.filter isCode = codes1 := rfl
theorem w_codes : ∀ c ∈ words1.filter isCode, c.before args0 about1 = true := by
  rw [codes_eq]
  intro c hc
  simp only [codes1, List.mem_cons, List.not_mem_nil, or_false] at hc
  rcases hc with rfl | rfl | rfl | rfl | rfl | rfl | rfl | rfl | rfl | rfl | rfl
  · exact w_c0
  · exact w_c1
  · exact w_c2
  · exact w_c3
  · exact w_c4
  · exact w_c5
  · exact w_c6
  · exact w_c7
  · exact w_c8
  · exact w_c9
  · exact w_c10
set_option maxRecDepth 65536 in
theorem w_t1 : (words1.take 24).all (fun c => isCode c || c.before args0 about1) = true := by decide +kernel
set_option maxRecDepth 65536 in
theorem w_t2 : ((words1.drop 24).take 24).all (fun c => isCode c || c.before args0 about1) = true := by decide +kernel
set_option maxRecDepth 65536 in
theorem w_t3 : ((words1.drop 24).drop 24).all (fun c => isCode c || c.before args0 about1) = true := by decide +kernel
theorem w_tables : (allAtoms (Jvm.Cond.code x code maxLocals ret :: tables_1)).before args0 about1 = true := by
  rw [allAtoms_all]
  show words1.all (fun c => c.before args0 about1) = true
  refine all_split ?_ w_codes
  rw [← List.take_append_drop 24 words1, List.all_append, w_t1, ← List.take_append_drop 24 (words1.drop 24), List.all_append, w_t2, w_t3]
  rfl
set_option maxRecDepth 65536 in
theorem w_rest : rest_1_c.before args0 about1 = true := by decide +kernel
set_option maxRecDepth 65536 in
theorem w_case : (Jvm.Cond.and given_1 narrow_1).before args0 about1 = true := by decide +kernel
theorem w_applies : (headSpec (Jvm.Cond.code x code maxLocals ret :: tables_1) room_1).applies x e0.platform about1 = true :=
  (Spec.applies_iff w_frames).mpr ⟨w_running, w_runnable, w_alone, w_named, w_hears, w_ripe, w_room, w_tables⟩
theorem atStart : AtStart classFile x code maxLocals ret World_1 tables_1 room_1 Calls_1 rest_1 Pre_1 launch0 p0 e0 about1 theMethod args0 below0 :=
  ⟨lists_1, trivial, launch0.admits_env _ _ _, launch0.least_env, fairChoices_fair.cas, fairChoices_fair.clock, w_frames, w_args, w_heap, w_applies, trivial, w_rest, w_case⟩
end start1
theorem witness_1 : WitnessClaimed_1 := ⟨start1.p0, start1.e0, start1.about1, start1.theMethod, start1.args0, start1.below0, start1.atStart⟩
end Jvm.Pilot.@@N@@
