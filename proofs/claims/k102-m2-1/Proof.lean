import JvmDerived
import JvmDerived.Pilot.@@N@@Statement
import JvmDerived.Pilot.@@N@@Code
set_option linter.unusedVariables false
set_option linter.unusedSimpArgs false
namespace Jvm.Pilot.@@N@@
open Jvm Jvm.ClassFile Sem Op Lib Jvm.Free Jvm.Stand Jvm.LawKit Jvm.RoadKit Bundle Jvm.Pilot.@@N@@.Jvm.D
section Own
variable {p : Program} {l : Launch} {e : Env} {R : Room} {s : State} {m : MethodId} {args : Array Value} {below : List Frame} {meth : Method} {c : Code} {T T' : State} {locs : List Loc} {cells slots : Nat} {Z : State} {h h' : Heap} {P : Option Value → Heap → List Loc → Prop} {cm sm : Nat} {g g' : JFrame}
/-- from where the walk stands the body comes to its end, and P says what it leaves -/
def own_Go (p : Program) (e : Env) (below : List Frame) (s : State) (P : Option Value → Heap → List Loc → Prop) (cm sm : Nat) (T : State) (g : JFrame) : Prop :=
  ∃ s₂ o, Steps p.tables e below (T.setTop g) s₂ ∧ s₂.status = .running ∧ Ended s₂ below o ∧ ∃ v L, o = .returned v ∧ P v s₂.heap L ∧ FrameEnd s o s₂ L cm sm
theorem own_st (st : ∀ t, Steps p.tables e below (T'.setTop g') t → Steps p.tables e below (T.setTop g) t) (k : own_Go p e below s P cm sm T' g') : own_Go p e below s P cm sm T g := by
  obtain ⟨s₂, o, h1, h2⟩ := k; exact ⟨s₂, o, st _ h1, h2⟩
theorem own_tr (st : Steps p.tables e below (T.setTop g) (T'.setTop g')) (k : own_Go p e below s P cm sm T' g') : own_Go p e below s P cm sm T g := own_st (fun _ q => st.trans q) k
theorem own_out (X : Stand p l e R s m args below meth c T locs cells slots) {v : Option Value} (hv : meth.sig.returnType = none → v = none) (hlk : meth.locks = false) (eT : T.heap = h)
    (hret : ∀ fs, (∀ (f : JFrame) (acts : List Action), f.method = m → f.locked = none → f.entered = [] → (doReturn e (T.setTop f) acts v).1 = T.setFrames fs) → Steps p.tables e below (T.setTop g) (T.setFrames fs))
    (hP : P v h locs) (hc : cells ≤ cm) (hs : slots ≤ sm) : own_Go p e below s P cm sm T g := by
  obtain ⟨fs, hr, hrun, hended, hW, hsame⟩ := X.leave hv hlk
  subst eT
  exact ⟨_, _, hret fs hr, hrun, hended, v, locs, rfl, hP, ⟨_, rfl⟩, hW, hsame.mono hc hs⟩
theorem own_retI (X : Stand p l e R s m args below meth c T locs cells slots) (hx : p.tables.exec = Jvm.exec) (hret : meth.sig.returnType = some .int) (hlk : meth.locks = false) (eT : T.heap = h) {pc : Nat} {Ls : Array Slot} {z : Int32} {rest : List Value} (hd : decode c.code pc = .ok (.ireturn, 1))
    (hP : P (some (.int z)) h locs) (hc : cells ≤ cm) (hs : slots ≤ sm) : own_Go p e below s P cm sm T (mkF m pc Ls (.int z :: rest)) :=
  own_out X (fun q => by rw [hret] at q; cases q) hlk eT (fun fs hr => retOut X hx hret rfl (Or.inl ⟨rfl, Or.inl rfl, z, rfl⟩) hd hr) hP hc hs
theorem own_retN (X : Stand p l e R s m args below meth c T locs cells slots) (hx : p.tables.exec = Jvm.exec) {t : FieldType} (hret : meth.sig.returnType = some t) (hlk : meth.locks = false) (eT : T.heap = h) (ht : t = .boolean ∨ t = .byte ∨ t = .char ∨ t = .short) {pc : Nat} {Ls : Array Slot} {z : Int32} {rest : List Value} (hd : decode c.code pc = .ok (.ireturn, 1))
    (hP : P (some (.int (nar t z))) h locs) (hc : cells ≤ cm) (hs : slots ≤ sm) : own_Go p e below s P cm sm T (mkF m pc Ls (.int z :: rest)) :=
  own_out X (fun q => by rw [hret] at q; cases q) hlk eT (fun fs hr => retN X hx hret ht hd hr) hP hc hs
theorem own_retJ (X : Stand p l e R s m args below meth c T locs cells slots) (hx : p.tables.exec = Jvm.exec) (hret : meth.sig.returnType = some .long) (hlk : meth.locks = false) (eT : T.heap = h) {pc : Nat} {Ls : Array Slot} {z : Int64} {rest : List Value} (hd : decode c.code pc = .ok (.lreturn, 1))
    (hP : P (some (.long z)) h locs) (hc : cells ≤ cm) (hs : slots ≤ sm) : own_Go p e below s P cm sm T (mkF m pc Ls (.long z :: rest)) :=
  own_out X (fun q => by rw [hret] at q; cases q) hlk eT (fun fs hr => retOut X hx hret rfl (Or.inr (Or.inl ⟨rfl, rfl, z, rfl⟩)) hd hr) hP hc hs
theorem own_retR (X : Stand p l e R s m args below meth c T locs cells slots) (hx : p.tables.exec = Jvm.exec) {t : FieldType} (hret : meth.sig.returnType = some t) (hlk : meth.locks = false) (eT : T.heap = h) (ht : t.isReference = true) {pc : Nat} {Ls : Array Slot} {w : Value} (hw : w.isRef = true) {rest : List Value} (hd : decode c.code pc = .ok (.areturn, 1))
    (hP : P (some w) h locs) (hc : cells ≤ cm) (hs : slots ≤ sm) : own_Go p e below s P cm sm T (mkF m pc Ls (w :: rest)) :=
  own_out X (fun q => by rw [hret] at q; cases q) hlk eT (fun fs hr => retOut X hx hret (by cases t <;> cases w <;> first | rfl | (simp [Value.isRef] at hw; done) | (simp [FieldType.isReference] at ht; done)) (Or.inr (Or.inr (Or.inr (Or.inr ⟨rfl, ht, hw⟩)))) hd hr) hP hc hs
theorem own_ret0 (X : Stand p l e R s m args below meth c T locs cells slots) (hx : p.tables.exec = Jvm.exec) (hret : meth.sig.returnType = none) (hlk : meth.locks = false) (eT : T.heap = h) {pc : Nat} {Ls : Array Slot} (hd : decode c.code pc = .ok (.return_, 1))
    (hP : P none h locs) (hc : cells ≤ cm) (hs : slots ≤ sm) : own_Go p e below s P cm sm T (mkF m pc Ls []) :=
  own_out X (fun _ => rfl) hlk eT (fun fs hr => X.returnOut hx hret hd hr) hP hc hs
/-- an array by its length and what each place holds -/
def own_Av (Z : State) (h : Heap) (a : Addr) (k : ClassId) (ty : FieldType) (n : Nat) (f : Nat → Value) : Prop := ∃ cl : Cell, Arr Z h a cl ty ∧ cl.cls = k ∧ cl.slots.size = n ∧ ∀ j, j < n → cl.slots[j]? = some (f j)
variable {a b : Addr} {k : ClassId} {ty : FieldType} {n i sl : Nat} {f : Nat → Value} {v w : Value} {ws : List Addr} {z j x : Int32} {rest : List Value}
theorem own_Av.lt (F : own_Av Z h a k ty n f) : a < h.size := by obtain ⟨cl, A, -⟩ := F; exact A.lt
theorem own_Av.ext (F : own_Av Z h a k ty n f) (E : Ext h h') : own_Av Z h' a k ty n f := by obtain ⟨cl, A, r⟩ := F; exact ⟨cl, A.ext E, r⟩
theorem own_Av.other (F : own_Av Z h b k ty n f) (W : Wr h h' a sl v) (q : b ≠ a) : own_Av Z h' b k ty n f := by obtain ⟨cl, A, r⟩ := F; exact ⟨cl, A.other W q, r⟩
theorem own_Av.keep (F : own_Av Z h a k ty n f) (K : Keep h h' ws) (q : a ∉ ws) : own_Av Z h' a k ty n f := by obtain ⟨cl, A, r⟩ := F; exact ⟨cl, ⟨K.2.1 a cl A.1 q, A.2⟩, r⟩
theorem own_Av.new (A : Arr Z h a (newA k ty z) ty) (hz : z.toNatClampNeg = n) : own_Av Z h a k ty n (fun _ => defaultValue ty) := ⟨_, A, rfl, (sz_new _ _ _).trans hz, fun q hq => by
  subst hz; simp [newA, hq]⟩
theorem own_Av.set (F : own_Av Z h a k ty n f) (W : Wr h h' a i v) (hi : i < n) : own_Av Z h' a k ty n (fun q => if q = i then v else f q) := by
  obtain ⟨cl, A, r1, r2, r3⟩ := F
  refine ⟨_, A.same W, r1, by rw [sz_set]; exact r2, fun q hq => ?_⟩
  by_cases u : q = i
  · subst u; simp [Cell.setSlot, r2, hi]
  · have := r3 q hq; simp only [Cell.setSlot, u, if_false]; rw [Array.getElem?_setIfInBounds_ne (Ne.symm u)]; exact this
theorem own_Av.to {f' : Nat → Value} (F : own_Av Z h a k ty n f) (q : ∀ j, j < n → f j = f' j) : own_Av Z h a k ty n f' := by
  obtain ⟨cl, A, r1, r2, r3⟩ := F; exact ⟨cl, A, r1, r2, fun j hj => by rw [← q j hj]; exact r3 j hj⟩
theorem own_idx (hj : j.toInt = i) : j.toNatClampNeg = i := by simp [Int32.toNatClampNeg, hj]
theorem own_inb {cl : Cell} (hj : j.toInt = i) (hs : cl.slots.size = n) (hi : i < n) : ¬ (j < 0 ∨ cl.slots.size ≤ j.toNatClampNeg) := by
  rw [own_idx hj, hs, Int32.lt_iff_toInt_lt, hj]; have : (0 : Int32).toInt = 0 := rfl; omega
theorem own_stC (X : Stand p l e R s m args below meth c T locs cells slots) (hx : p.tables.exec = Jvm.exec) (hZ : Z.Warmed39 s.vm) (eT : T.heap = h) (F : own_Av Z h a k .char n f) (hj : j.toInt = i) (hi : i < n) (hg : g.method = m) (hs : g.stack = .int x :: .int j :: .ref a :: rest) (hd : decode c.code g.pc = .ok (.castore, 1)) :
    ∃ T' h', Stand p l e R s m args below meth c T' (locs ++ [⟨a, i⟩]) cells slots ∧ T'.heap = h' ∧ Wr h h' a i (.int (nar .char x)) ∧ own_Av Z h' a k .char n (fun q => if q = i then .int (nar .char x) else f q) ∧ ∀ target, Steps p.tables e below (T'.setTop { g with pc := g.pc + 1, stack := rest }) target → Steps p.tables e below (T.setTop g) target := by
  obtain ⟨cl, A, r1, r2, r3⟩ := F
  obtain ⟨T', h', X', e', W, st⟩ := stC X hx hZ eT A (own_inb hj r2 hi) hg hs hd
  rw [own_idx hj] at X' W
  exact ⟨T', h', X', e', W, own_Av.set ⟨cl, A, r1, r2, r3⟩ W hi, st⟩
theorem own_stB (X : Stand p l e R s m args below meth c T locs cells slots) (hx : p.tables.exec = Jvm.exec) (hZ : Z.Warmed39 s.vm) (eT : T.heap = h) (F : own_Av Z h a k .byte n f) (hj : j.toInt = i) (hi : i < n) (hg : g.method = m) (hs : g.stack = .int x :: .int j :: .ref a :: rest) (hd : decode c.code g.pc = .ok (.bastore, 1)) :
    ∃ T' h', Stand p l e R s m args below meth c T' (locs ++ [⟨a, i⟩]) cells slots ∧ T'.heap = h' ∧ Wr h h' a i (.int (nar .byte x)) ∧ own_Av Z h' a k .byte n (fun q => if q = i then .int (nar .byte x) else f q) ∧ ∀ target, Steps p.tables e below (T'.setTop { g with pc := g.pc + 1, stack := rest }) target → Steps p.tables e below (T.setTop g) target := by
  obtain ⟨cl, A, r1, r2, r3⟩ := F
  obtain ⟨T', h', X', e', W, st⟩ := stB X hx hZ eT A (own_inb hj r2 hi) hg hs hd
  rw [own_idx hj] at X' W
  exact ⟨T', h', X', e', W, own_Av.set ⟨cl, A, r1, r2, r3⟩ W hi, st⟩
theorem own_stI (X : Stand p l e R s m args below meth c T locs cells slots) (hx : p.tables.exec = Jvm.exec) (hZ : Z.Warmed39 s.vm) (eT : T.heap = h) (F : own_Av Z h a k .int n f) (hj : j.toInt = i) (hi : i < n) (hg : g.method = m) (hs : g.stack = .int x :: .int j :: .ref a :: rest) (hd : decode c.code g.pc = .ok (.iastore, 1)) :
    ∃ T' h', Stand p l e R s m args below meth c T' (locs ++ [⟨a, i⟩]) cells slots ∧ T'.heap = h' ∧ Wr h h' a i (.int x) ∧ own_Av Z h' a k .int n (fun q => if q = i then .int x else f q) ∧ ∀ target, Steps p.tables e below (T'.setTop { g with pc := g.pc + 1, stack := rest }) target → Steps p.tables e below (T.setTop g) target := by
  obtain ⟨cl, A, r1, r2, r3⟩ := F
  obtain ⟨T', h', X', e', W, st⟩ := stI X hx hZ eT A (own_inb hj r2 hi) hg hs hd
  rw [own_idx hj] at X' W
  exact ⟨T', h', X', e', W, own_Av.set ⟨cl, A, r1, r2, r3⟩ W hi, st⟩
theorem own_stJ {y : Int64} (X : Stand p l e R s m args below meth c T locs cells slots) (hx : p.tables.exec = Jvm.exec) (hZ : Z.Warmed39 s.vm) (eT : T.heap = h) (F : own_Av Z h a k .long n f) (hj : j.toInt = i) (hi : i < n) (hg : g.method = m) (hs : g.stack = .long y :: .int j :: .ref a :: rest) (hd : decode c.code g.pc = .ok (.lastore, 1)) :
    ∃ T' h', Stand p l e R s m args below meth c T' (locs ++ [⟨a, i⟩]) cells slots ∧ T'.heap = h' ∧ Wr h h' a i (.long y) ∧ own_Av Z h' a k .long n (fun q => if q = i then .long y else f q) ∧ ∀ target, Steps p.tables e below (T'.setTop { g with pc := g.pc + 1, stack := rest }) target → Steps p.tables e below (T.setTop g) target := by
  obtain ⟨cl, A, r1, r2, r3⟩ := F
  obtain ⟨T', h', X', e', W, st⟩ := stJ X hx hZ eT A (own_inb hj r2 hi) hg hs hd
  rw [own_idx hj] at X' W
  exact ⟨T', h', X', e', W, own_Av.set ⟨cl, A, r1, r2, r3⟩ W hi, st⟩
theorem own_stR {C : String} (X : Stand p l e R s m args below meth c T locs cells slots) (hx : p.tables.exec = Jvm.exec) (hZ : Z.Warmed39 s.vm) (eT : T.heap = h) (F : own_Av Z h a k (.object C) n f) (O : Ovr Z k C) (I : v = .null ∨ ∃ y, v = .ref y ∧ Ins Z h y C true) (hj : j.toInt = i) (hi : i < n) (hg : g.method = m) (hs : g.stack = v :: .int j :: .ref a :: rest) (hd : decode c.code g.pc = .ok (.aastore, 1)) :
    ∃ T' h', Stand p l e R s m args below meth c T' (locs ++ [⟨a, i⟩]) cells slots ∧ T'.heap = h' ∧ Wr h h' a i v ∧ own_Av Z h' a k (.object C) n (fun q => if q = i then v else f q) ∧ ∀ target, Steps p.tables e below (T'.setTop { g with pc := g.pc + 1, stack := rest }) target → Steps p.tables e below (T.setTop g) target := by
  obtain ⟨cl, A, r1, r2, r3⟩ := F
  have St : Sto Z h a v := by
    rcases I with rfl | ⟨y, rfl, I⟩
    · exact Or.inl rfl
    · exact Sto.ofV A r1 O I
  obtain ⟨T', h', X', e', W, st⟩ := stR X hx hZ eT A (own_inb hj r2 hi) rfl St hg hs hd
  rw [own_idx hj] at X' W
  exact ⟨T', h', X', e', W, own_Av.set ⟨cl, A, r1, r2, r3⟩ W hi, st⟩
theorem own_ldC (X : Stand p l e R s m args below meth c T locs cells slots) (hx : p.tables.exec = Jvm.exec) (hZ : Z.Warmed39 s.vm) (eT : T.heap = h) (F : own_Av Z h a k .char n f) (hj : j.toInt = i) (hi : i < n) (hv : f i = v) (hg : g.method = m) (hs : g.stack = .int j :: .ref a :: rest) (hd : decode c.code g.pc = .ok (.caload, 1)) (target : State)
    (hr : Steps p.tables e below (T.setTop { g with pc := g.pc + 1, stack := v :: rest }) target) : Steps p.tables e below (T.setTop g) target := by
  obtain ⟨cl, A, r1, r2, r3⟩ := F
  exact X.caload hx (by rw [eT]; exact A.1) (State.isArrayOf_alike hZ.alike A.2.1) A.2.2 (own_inb hj r2 hi) (by rw [own_idx hj, r3 i hi, hv]) hg hs hd target hr
theorem own_ldB (X : Stand p l e R s m args below meth c T locs cells slots) (hx : p.tables.exec = Jvm.exec) (hZ : Z.Warmed39 s.vm) (eT : T.heap = h) (F : own_Av Z h a k .byte n f) (hj : j.toInt = i) (hi : i < n) (hv : f i = v) (hg : g.method = m) (hs : g.stack = .int j :: .ref a :: rest) (hd : decode c.code g.pc = .ok (.baload, 1)) (target : State)
    (hr : Steps p.tables e below (T.setTop { g with pc := g.pc + 1, stack := v :: rest }) target) : Steps p.tables e below (T.setTop g) target := by
  obtain ⟨cl, A, r1, r2, r3⟩ := F
  exact X.baloadBytes hx (by rw [eT]; exact A.1) (State.isArrayOf_alike hZ.alike A.2.1) A.2.2 (own_inb hj r2 hi) (by rw [own_idx hj, r3 i hi, hv]) hg hs hd target hr
theorem own_ldI (X : Stand p l e R s m args below meth c T locs cells slots) (hx : p.tables.exec = Jvm.exec) (hZ : Z.Warmed39 s.vm) (eT : T.heap = h) (F : own_Av Z h a k .int n f) (hj : j.toInt = i) (hi : i < n) (hv : f i = v) (hg : g.method = m) (hs : g.stack = .int j :: .ref a :: rest) (hd : decode c.code g.pc = .ok (.iaload, 1)) (target : State)
    (hr : Steps p.tables e below (T.setTop { g with pc := g.pc + 1, stack := v :: rest }) target) : Steps p.tables e below (T.setTop g) target := by
  obtain ⟨cl, A, r1, r2, r3⟩ := F
  exact X.iaload hx (by rw [eT]; exact A.1) (State.isArrayOf_alike hZ.alike A.2.1) A.2.2 (own_inb hj r2 hi) (by rw [own_idx hj, r3 i hi, hv]) hg hs hd target hr
theorem own_ldR (X : Stand p l e R s m args below meth c T locs cells slots) (hx : p.tables.exec = Jvm.exec) (hZ : Z.Warmed39 s.vm) (eT : T.heap = h) (F : own_Av Z h a k ty n f) (hty : ty.isReference = true) (hj : j.toInt = i) (hi : i < n) (hv : f i = v) (hg : g.method = m) (hs : g.stack = .int j :: .ref a :: rest) (hd : decode c.code g.pc = .ok (.aaload, 1)) (target : State)
    (hr : Steps p.tables e below (T.setTop { g with pc := g.pc + 1, stack := v :: rest }) target) : Steps p.tables e below (T.setTop g) target := by
  obtain ⟨cl, A, r1, r2, r3⟩ := F
  exact X.aaload hx (by rw [eT]; exact A.1) (State.isArrayOf_alike hZ.alike A.2.1) hty A.2.2 (own_inb hj r2 hi) (by rw [own_idx hj, r3 i hi, hv]) hg hs hd target hr
theorem own_len (X : Stand p l e R s m args below meth c T locs cells slots) (hx : p.tables.exec = Jvm.exec) (hZ : Z.Warmed39 s.vm) (eT : T.heap = h) (F : own_Av Z h a k ty n f) (hz : n.toInt32 = z) (hg : g.method = m) (hs : g.stack = .ref a :: rest) (hd : decode c.code g.pc = .ok (.arraylength, 1)) (target : State)
    (hr : Steps p.tables e below (T.setTop { g with pc := g.pc + 1, stack := .int z :: rest }) target) : Steps p.tables e below (T.setTop g) target := by
  obtain ⟨cl, A, r1, r2, r3⟩ := F
  exact X.arraylength hx (by rw [eT]; exact A.1) (State.isArrayOf_alike hZ.alike A.2.1) hg hs hd target (by rw [r2, hz]; exact hr)
theorem own_ne (q : a < h.size) (r : b = h.size) : a ≠ b := Nat.ne_of_lt (Nat.lt_of_lt_of_le q (Nat.le_of_eq r.symm))
theorem own_ne2 (q : a < h.size) (r : h.size ≤ b) : a ≠ b := Nat.ne_of_lt (Nat.lt_of_lt_of_le q r)
theorem own_ge {n0 : Nat} (q : n0 ≤ h.size) (r : b = h.size) : n0 ≤ b := Nat.le_trans q (Nat.le_of_eq r.symm)
theorem own_store1 {L : Array Slot} {o : Slot} (hv : v.isRef = true) (hold : L[i]? = some o) (ho : o = .unset ∨ ∃ w, o = .val w ∧ w.category = 1) : storeLocals L i v = some (L.setIfInBounds i (.val v)) := XS.store1 hold ho (Jvm.Free.XT.cat1 hv)
theorem own_nref (ht : ty.isReference = true) (hv : v.isRef = true) : narrow ty v = v := by cases ty <;> cases v <;> first | rfl | (simp [Value.isRef] at hv; done) | (simp [FieldType.isReference] at ht; done)
theorem own_fref (ht : ty.isReference = true) (hv : v.isRef = true) : fits ty v = true := by cases ty <;> cases v <;> first | rfl | (simp [Value.isRef] at hv; done) | (simp [FieldType.isReference] at ht; done)
theorem own_fldI {t : Term} {C nm d : String} (ev : t.eval args s none [] s = some (.ref a)) (hq : (Cond.eq (Term.field t C nm d) (Term.int z)).value args s none s [] = some true) : Fld s s.heap a C nm d (.int z) := by
  obtain ⟨x, y, hx, hy, -, -⟩ := cmp_v (Or.inl hq)
  obtain rfl : y = .int z := (Option.some.inj hy).symm
  have : x = .int z := by simp only [Cond.value, hx, hy] at hq; cases x <;> simp at hq ⊢; exact hq
  rw [fld_at ev] at hx
  exact Fld.start (this ▸ hx)
theorem own_fldJ {t : Term} {C nm d : String} {z : Int64} (ev : t.eval args s none [] s = some (.ref a)) (hq : (Cond.eq (Term.field t C nm d) (Term.long z)).value args s none s [] = some true) : Fld s s.heap a C nm d (.long z) := by
  obtain ⟨x, y, hx, hy, -, -⟩ := cmp_v (Or.inl hq)
  obtain rfl : y = .long z := (Option.some.inj hy).symm
  have : x = .long z := by simp only [Cond.value, hx, hy] at hq; cases x <;> simp at hq ⊢; exact hq
  rw [fld_at ev] at hx
  exact Fld.start (this ▸ hx)
theorem own_fldN {t : Term} {C nm d : String} (ev : t.eval args s none [] s = some (.ref a)) (hq : (Cond.eq (Term.field t C nm d) Term.null).value args s none s [] = some true) : Fld s s.heap a C nm d .null := by
  have hx := null_v hq
  rw [fld_at ev] at hx
  exact Fld.start hx
theorem own_selP {y : MethodName} {nn : Nat} {a0 : Array Value} (hZ : Z.Warmed39 s.vm) (wi : (Cond.instantiable y.cls nn).before a0 Z = true) (wp : (Cond.privateMethod y).before a0 Z = true) (wm : (Cond.instanceMethod y).before a0 Z = true) (hy : y.cls ≠ "java/lang/invoke/MethodHandle" ∧ y.cls ≠ "java/lang/invoke/VarHandle") : (Cond.selects y.cls y y).before args s = true := by
  obtain ⟨c', k', h1, h2, -, h4, -⟩ := Cond.instantiable_spec (mv (args := args) hZ wi : (Cond.instantiable y.cls nn).before args s = true)
  exact selects_self_of_private h1 h2 (by simp at h4; exact h4.1) (Cond.privateMethod_at (mvP hZ wp (args := args))) (mv hZ wm) hy
end Own
theorem own_lt0 {x : Int32} (q : 0 ≤ x.toInt) : ¬ x < 0 := by rw [Int32.lt_iff_toInt_lt]; have : (0 : Int32).toInt = 0 := rfl; omega
theorem own_narb (x : Int32) : nar .byte x.toInt8.toInt32 = x.toInt8.toInt32 := by simp [nar]
theorem own_narc (x : Int32) : nar .char x.toUInt32.toUInt16.toUInt32.toInt32 = x.toUInt32.toUInt16.toUInt32.toInt32 := by simp only [nar, UInt32.toUInt32_toInt32, UInt16.toUInt16_toUInt32]
theorem own_modg {q y : Int32} (hq : 0 ≤ q.toInt) (hy : 0 < y.toInt) : 0 ≤ (q % y).toInt ∧ (q % y).toInt < y.toInt := by
  have h2 := (c_iremV q y).1 hq hy
  exact ⟨h2.1, h2.2.1⟩
theorem own_modm (q y : Int32) (hy : 0 < y.toInt) : 0 ≤ ((q &&& (2147483647 : Int32)) % y).toInt ∧ ((q &&& (2147483647 : Int32)) % y).toInt < y.toInt := own_modg (c_and q (2147483647 : Int32) (by decide)).1 hy
theorem own_ix {ev pc pr : Int32} (h1 : 0 ≤ ev.toInt ∧ ev.toInt ≤ 15) (h2 : 1 ≤ pc.toInt ∧ pc.toInt ≤ 4) (h3 : 0 ≤ pr.toInt ∧ pr.toInt < pc.toInt) : ∃ i : Nat, (i : Int) = ev.toInt * pc.toInt + pr.toInt ∧ ((ev * pc) + pr).toInt = i ∧ (i : Int) < 16 * pc.toInt := by
  have hb : 0 ≤ ev.toInt * pc.toInt ∧ ev.toInt * pc.toInt ≤ 60 ∧ ev.toInt * pc.toInt + pr.toInt < 16 * pc.toInt := by
    rcases (by omega : pc.toInt = 1 ∨ pc.toInt = 2 ∨ pc.toInt = 3 ∨ pc.toInt = 4) with q | q | q | q <;> rw [q] at h3 ⊢ <;> omega
  have hm : (ev * pc).toInt = ev.toInt * pc.toInt := Jvm.Free.XT.mul32 ⟨by omega, by omega⟩
  have ha : ((ev * pc) + pr).toInt = (ev * pc).toInt + pr.toInt := Jvm.Free.XT.add32 ⟨by omega, by omega⟩
  exact ⟨(ev.toInt * pc.toInt + pr.toInt).toNat, by omega, by omega, by omega⟩
theorem own_inj {e1 e2 pc r1 r2 : Int32} {i j : Nat} (h2 : 1 ≤ pc.toInt ∧ pc.toInt ≤ 4) (h3 : 0 ≤ r1.toInt ∧ r1.toInt < pc.toInt) (h4 : 0 ≤ r2.toInt ∧ r2.toInt < pc.toInt) (hi : (i : Int) = e1.toInt * pc.toInt + r1.toInt) (hj : (j : Int) = e2.toInt * pc.toInt + r2.toInt) : i = j ↔ (e1 = e2 ∧ r1 = r2) := by
  rw [← Int32.toInt_inj, ← Int32.toInt_inj]
  rcases (by omega : pc.toInt = 1 ∨ pc.toInt = 2 ∨ pc.toInt = 3 ∨ pc.toInt = 4) with q | q | q | q <;> rw [q] at h3 h4 hi hj <;> omega
theorem own_isR (c : Prop) [Decidable c] {x y : Value} (hx : x.isRef = true) (hy : y.isRef = true) : (if c then x else y).isRef = true := by split <;> assumption
theorem own_masks (x : Int32) : (0 ≤ (x &&& (15 : Int32)).toInt ∧ (x &&& (15 : Int32)).toInt ≤ 15) ∧ (0 ≤ (x &&& (3 : Int32)).toInt ∧ (x &&& (3 : Int32)).toInt ≤ 3) := ⟨c_and x (15 : Int32) (by decide), c_and x (3 : Int32) (by decide)⟩
theorem own_char (x : Int32) : ¬ (255 : Int32) < (x &&& (255 : Int32)).toUInt32.toUInt16.toUInt32.toInt32 := by
  rw [i2c_mask, Int32.lt_iff_toInt_lt]; have := c_and x (255 : Int32) (by decide); have : (255 : Int32).toInt = 255 := rfl; omega
theorem d2_0 : decode jdk_43_method_3_code 0 = .ok (.iload_n 0, 1) := by decide +kernel
theorem d2_1 : decode jdk_43_method_3_code 1 = .ok (.sipush 255, 3) := by decide +kernel
theorem d2_4 : decode jdk_43_method_3_code 4 = .ok (.if_icmp .gt 7, 3) := by decide +kernel
theorem d2_7 : decode jdk_43_method_3_code 7 = .ok (.iconst 1, 1) := by decide +kernel
theorem d2_8 : decode jdk_43_method_3_code 8 = .ok (.goto 4, 3) := by decide +kernel
theorem d2_12 : decode jdk_43_method_3_code 12 = .ok (.ireturn, 1) := by decide +kernel
theorem own_pn0 : plainName "java/lang/StringLatin1" = true := by first | (simp [plainName, overriddenIn]; done) | decide +kernel
def own_canEnc_Q (Z : State) (z : Int32) (h0 : Heap) (n0 : Nat) (v : Option Value) (h : Heap) (L : List Loc) : Prop := v = some (.int 1) ∧ Fr n0 L ∧ h = h0
set_option maxRecDepth 65536 in
set_option maxHeartbeats 40000000 in
theorem own_canEnc (l : Launch) (Z : State) (a0 : Array Value) (hw : ∀ d ∈ tables_1, d.before a0 Z = true) (ws : List Jvm.Cond) (z : Int32) (h0 : Heap) (n0 : Nat) (Z0 : n0 ≤ h0.size) (hz : ¬ (255 : Int32) < z) :
    MetFree l (⟨"java/lang/StringLatin1", "canEncode", "(C)Z"⟩ : MethodName) (head1 (Jvm.Cond.code (⟨"java/lang/StringLatin1", "canEncode", "(C)Z"⟩ : MethodName) jdk_43_method_3_code 1 (some .boolean) :: ws) ({ frames := 0, cells := 0, slots := 0, locals := 0 } : Room)) (fun aa U0 => aa = #[(.int z)] ∧ Z.Warmed39 U0.vm ∧ U0.heap = h0) (fun _ _ _ _ _ => True) (fun _ U0 o0 U1 => ∃ v0 L0, o0 = .returned v0 ∧ own_canEnc_Q Z z h0 n0 v0 U1.heap L0 ∧ FrameEnd U0 o0 U1 L0 ({ frames := 0, cells := 0, slots := 0, locals := 0 } : Room).cells ({ frames := 0, cells := 0, slots := 0, locals := 0 } : Room).slots) := by
  refine MetFree.of_bodySF (plainFor_of_name own_pn0) hisR ?_
  intro p e s m args below meth c s₁ Bd hml0 hP hK
  obtain ⟨rfl, hZ, hh⟩ := hP
  have hx := Bd.exec
  have hby := Bd.bytes
  have hml : c.maxLocals = 1 := hml0
  have hown : s.vm.findClass "java/lang/StringLatin1" = some m.cls := findClass_of_methodNamed Bd.named
  have hnm := (name_of_methodNamed Bd.named Bd.method).1
  have X0 : Stand p l e ({ frames := 0, cells := 0, slots := 0, locals := 0 } : Room) s m #[(.int z)] below meth c s₁ [] 0 0 := Stand.of_body Bd
  have e0 : s₁.heap = h0 := by rw [← hh, Bd.state]; rfl
  have N0 := Fr.nil n0
  show own_Go p e below s (own_canEnc_Q Z z h0 n0) 0 0 s₁ (entryFrame m #[(.int z)] 1)
  rw [show entryFrame m #[(.int z)] 1 = mkF m 0 #[.val (.int z)] [] from by first | (simp [entryFrame, mkF, argsToLocals, Value.category]; done) | rfl]
  refine own_st (T' := s₁) (g' := (mkF m 1 #[.val (.int z)] [(.int z)])) (fun _ k => XS.iloadN X0.here hx rfl (hb hby d2_0) rfl k) ?_
  refine own_st (T' := s₁) (g' := (mkF m 4 #[.val (.int z)] [(.int (255 : Int32)), (.int z)])) (fun _ k => XS.sipush X0.here hx rfl (hb hby d2_1) k) ?_
  refine own_st (T' := s₁) (g' := (mkF m 7 #[.val (.int z)] [])) (fun _ k => XS.icmpNo X0.here hx rfl (hb hby d2_4) rfl (Jvm.Free.XT.ii_gt_f hz) k) ?_
  refine own_st (T' := s₁) (g' := (mkF m 8 #[.val (.int z)] [(.int (1 : Int32))])) (fun _ k => XS.iconst X0.here hx rfl (hb hby d2_7) k) ?_
  refine own_st (T' := s₁) (g' := (mkF m 12 #[.val (.int z)] [(.int (1 : Int32))])) (fun _ k => XS.goto X0.here hx rfl (pc0 := 8) (pc' := 12) rfl (hb hby d2_8) (by decide) (by decide) k) ?_
  exact own_retN X0 hx Bd.returns Bd.notSynchronized e0 (by simp) (hb hby d2_12) ⟨rfl, N0, rfl⟩ (by decide) (by decide)
theorem d3_0 : decode jdk_43_method_46_code 0 = .ok (.iconst 1, 1) := by decide +kernel
theorem d3_1 : decode jdk_43_method_46_code 1 = .ok (.newarray .byte, 2) := by decide +kernel
theorem d3_3 : decode jdk_43_method_46_code 3 = .ok (.dup, 1) := by decide +kernel
theorem d3_4 : decode jdk_43_method_46_code 4 = .ok (.iconst 0, 1) := by decide +kernel
theorem d3_5 : decode jdk_43_method_46_code 5 = .ok (.iload_n 0, 1) := by decide +kernel
theorem d3_6 : decode jdk_43_method_46_code 6 = .ok (.i2b, 1) := by decide +kernel
theorem d3_7 : decode jdk_43_method_46_code 7 = .ok (.bastore, 1) := by decide +kernel
theorem d3_8 : decode jdk_43_method_46_code 8 = .ok (.areturn, 1) := by decide +kernel
def own_toBytes_Q (Z : State) (z : Int32) (h0 : Heap) (n0 : Nat) (v : Option Value) (h : Heap) (L : List Loc) : Prop := ∃ t k, v = some (.ref t) ∧ Fr n0 L ∧ Keep h0 h [] ∧ h0.size ≤ t ∧ own_Av Z h t k .byte 1 (fun _ => .int z.toInt8.toInt32)
set_option maxRecDepth 65536 in
set_option maxHeartbeats 40000000 in
theorem own_toBytes (l : Launch) (Z : State) (a0 : Array Value) (hw : ∀ d ∈ tables_1, d.before a0 Z = true) (ws : List Jvm.Cond) (z : Int32) (h0 : Heap) (n0 : Nat) (Z0 : n0 ≤ h0.size) :
    MetFree l (⟨"java/lang/StringLatin1", "toBytes", "(C)[B"⟩ : MethodName) (head1 (Jvm.Cond.code (⟨"java/lang/StringLatin1", "toBytes", "(C)[B"⟩ : MethodName) jdk_43_method_46_code 1 (some (.array .byte)) :: ws) ({ frames := 0, cells := 1, slots := 1, locals := 0 } : Room)) (fun aa U0 => aa = #[(.int z)] ∧ Z.Warmed39 U0.vm ∧ U0.heap = h0) (fun _ _ _ _ _ => True) (fun _ U0 o0 U1 => ∃ v0 L0, o0 = .returned v0 ∧ own_toBytes_Q Z z h0 n0 v0 U1.heap L0 ∧ FrameEnd U0 o0 U1 L0 ({ frames := 0, cells := 1, slots := 1, locals := 0 } : Room).cells ({ frames := 0, cells := 1, slots := 1, locals := 0 } : Room).slots) := by
  refine MetFree.of_bodySF (plainFor_of_name own_pn0) hisR ?_
  intro p e s m args below meth c s₁ Bd hml0 hP hK
  obtain ⟨rfl, hZ, hh⟩ := hP
  have hx := Bd.exec
  have hby := Bd.bytes
  have hml : c.maxLocals = 1 := hml0
  have hown : s.vm.findClass "java/lang/StringLatin1" = some m.cls := findClass_of_methodNamed Bd.named
  have hnm := (name_of_methodNamed Bd.named Bd.method).1
  have X0 : Stand p l e ({ frames := 0, cells := 1, slots := 1, locals := 0 } : Room) s m #[(.int z)] below meth c s₁ [] 0 0 := Stand.of_body Bd
  have e0 : s₁.heap = h0 := by rw [← hh, Bd.state]; rfl
  have N0 := Fr.nil n0
  show own_Go p e below s (own_toBytes_Q Z z h0 n0) 1 1 s₁ (entryFrame m #[(.int z)] 1)
  rw [show entryFrame m #[(.int z)] 1 = mkF m 0 #[.val (.int z)] [] from by first | (simp [entryFrame, mkF, argsToLocals, Value.category]; done) | rfl]
  have Kp := Keep.refl h0 []
  refine own_st (T' := s₁) (g' := (mkF m 1 #[.val (.int z)] [(.int (1 : Int32))])) (fun _ k => XS.iconst X0.here hx rfl (hb hby d3_0) k) ?_
  obtain ⟨T1, h1, k1, X1, e1, E1, A1, st1⟩ := newP X0 hx hZ (hw _ (List.mem_of_getElem? (i := 16) rfl)) e0 (g := (mkF m 1 #[.val (.int z)] [(.int (1 : Int32))])) rfl (hb hby d3_1) rfl (by decide) (cap := 1) (by decide) (by decide) (by decide) (by decide)
  obtain ⟨t, gt⟩ : ∃ z, z = h0.size := ⟨_, rfl⟩
  rw [← gt] at A1 st1
  have ge_t : n0 ≤ t := own_ge Z0 gt
  have sz_t : h0.size ≤ t := own_ge Kp.1 gt
  have Z0' := Nat.le_trans Z0 E1.1
  have Kp := Kp.ext E1
  have V_t := own_Av.new (n := 1) A1 rfl
  refine own_st (T' := T1) (g' := (mkF m 3 #[.val (.int z)] [(.ref t)])) st1 ?_
  refine own_st (T' := T1) (g' := (mkF m 4 #[.val (.int z)] [(.ref t), (.ref t)])) (fun _ k => XS.dup X1.here hx rfl (hb hby d3_3) rfl rfl k) ?_
  refine own_st (T' := T1) (g' := (mkF m 5 #[.val (.int z)] [(.int (0 : Int32)), (.ref t), (.ref t)])) (fun _ k => XS.iconst X1.here hx rfl (hb hby d3_4) k) ?_
  refine own_st (T' := T1) (g' := (mkF m 6 #[.val (.int z)] [(.int z), (.int (0 : Int32)), (.ref t), (.ref t)])) (fun _ k => XS.iloadN X1.here hx rfl (hb hby d3_5) rfl k) ?_
  refine own_st (T' := T1) (g' := (mkF m 7 #[.val (.int z)] [(.int (z.toInt8.toInt32)), (.int (0 : Int32)), (.ref t), (.ref t)])) (fun _ k => XS.i2b X1.here hx rfl (hb hby d3_6) rfl k) ?_
  obtain ⟨T2, h2, X2, e2, W2, V2, st2⟩ := own_stB X1 hx hZ e1 V_t (i := 0) (by decide) (by decide) (g := (mkF m 7 #[.val (.int z)] [(.int (z.toInt8.toInt32)), (.int (0 : Int32)), (.ref t), (.ref t)])) rfl rfl (hb hby d3_7)
  have Z0'' := Nat.le_trans Z0' (Keep.of_wr W2).1
  have Kp := Kp.wr W2 (Or.inr sz_t)
  have N0' := Fr.snoc X2 N0 ge_t
  have V_t := V2
  refine own_st (T' := T2) (g' := (mkF m 8 #[.val (.int z)] [(.ref t)])) st2 ?_
  exact own_retR X2 hx Bd.returns Bd.notSynchronized e2 rfl rfl (hb hby d3_8) ⟨t, _, rfl, N0', Kp, sz_t, V_t.to (fun j hj => by obtain rfl : j = 0 := (by omega); simp [own_narb])⟩ (by decide) (by decide)
theorem d4_0 : decode jdk_42_method_151_code 0 = .ok (.aload_n 0, 1) := by decide +kernel
theorem d4_1 : decode jdk_42_method_151_code 1 = .ok (.invokespecial 1, 3) := by decide +kernel
theorem d4_4 : decode jdk_42_method_151_code 4 = .ok (.aload_n 0, 1) := by decide +kernel
theorem d4_5 : decode jdk_42_method_151_code 5 = .ok (.aload_n 1, 1) := by decide +kernel
theorem d4_6 : decode jdk_42_method_151_code 6 = .ok (.putfield 9, 3) := by decide +kernel
theorem d4_9 : decode jdk_42_method_151_code 9 = .ok (.aload_n 0, 1) := by decide +kernel
theorem d4_10 : decode jdk_42_method_151_code 10 = .ok (.iload_n 2, 1) := by decide +kernel
theorem d4_11 : decode jdk_42_method_151_code 11 = .ok (.putfield 15, 3) := by decide +kernel
theorem d4_14 : decode jdk_42_method_151_code 14 = .ok (.return_, 1) := by decide +kernel
theorem own_pn1 : plainName "java/lang/String" = true := by first | (simp [plainName, overriddenIn]; done) | decide +kernel
def own_strIni_Q (Z : State) (a : Addr) (t : Addr) (h0 : Heap) (n0 : Nat) (v : Option Value) (h : Heap) (L : List Loc) : Prop := v = none ∧ Fr n0 L ∧ Keep h0 h [a] ∧ Exa Z h a "java/lang/String" ∧ Fld Z h a "java/lang/String" "value" "[B" (.ref t) ∧ Fld Z h a "java/lang/String" "coder" "B" (.int (0 : Int32))
set_option maxRecDepth 65536 in
set_option maxHeartbeats 40000000 in
theorem own_strIni (l : Launch) (Z : State) (a0 : Array Value) (hw : ∀ d ∈ tables_1, d.before a0 Z = true) (ws : List Jvm.Cond) (a : Addr) (t : Addr) (h0 : Heap) (n0 : Nat) (Z0 : n0 ≤ h0.size) (Fv : Fld Z h0 a "java/lang/String" "value" "[B" .null) (Fc : Fld Z h0 a "java/lang/String" "coder" "B" (.int (0 : Int32))) (Ea : Exa Z h0 a "java/lang/String") (ga : n0 ≤ a) :
    MetFree l (⟨"java/lang/String", "<init>", "([BB)V"⟩ : MethodName) (head1 (Jvm.Cond.code (⟨"java/lang/String", "<init>", "([BB)V"⟩ : MethodName) jdk_42_method_151_code 3 none :: ws) ({ frames := 1, cells := 0, slots := 0, locals := 12 } : Room)) (fun aa U0 => aa = #[(.ref a), (.ref t), (.int (0 : Int32))] ∧ Z.Warmed39 U0.vm ∧ U0.heap = h0) (fun _ _ _ _ _ => True) (fun _ U0 o0 U1 => ∃ v0 L0, o0 = .returned v0 ∧ own_strIni_Q Z a t h0 n0 v0 U1.heap L0 ∧ FrameEnd U0 o0 U1 L0 ({ frames := 1, cells := 0, slots := 0, locals := 12 } : Room).cells ({ frames := 1, cells := 0, slots := 0, locals := 12 } : Room).slots) := by
  refine MetFree.of_bodySF (plainFor_of_name own_pn1) hisR ?_
  intro p e s m args below meth c s₁ Bd hml0 hP hK
  obtain ⟨rfl, hZ, hh⟩ := hP
  have hx := Bd.exec
  have hby := Bd.bytes
  have hml : c.maxLocals = 3 := hml0
  have hown : s.vm.findClass "java/lang/String" = some m.cls := findClass_of_methodNamed Bd.named
  have hnm := (name_of_methodNamed Bd.named Bd.method).1
  have X0 : Stand p l e ({ frames := 1, cells := 0, slots := 0, locals := 12 } : Room) s m #[(.ref a), (.ref t), (.int (0 : Int32))] below meth c s₁ [] 0 0 := Stand.of_body Bd
  have e0 : s₁.heap = h0 := by rw [← hh, Bd.state]; rfl
  have N0 := Fr.nil n0
  show own_Go p e below s (own_strIni_Q Z a t h0 n0) 0 0 s₁ (entryFrame m #[(.ref a), (.ref t), (.int (0 : Int32))] 3)
  rw [show entryFrame m #[(.ref a), (.ref t), (.int (0 : Int32))] 3 = mkF m 0 #[.val (.ref a), .val (.ref t), .val (.int (0 : Int32))] [] from by first | (simp [entryFrame, mkF, argsToLocals, Value.category]; done) | rfl]
  have Kp := Keep.refl h0 [a]
  refine own_st (T' := s₁) (g' := (mkF m 1 #[.val (.ref a), .val (.ref t), .val (.int (0 : Int32))] [(.ref a)])) (fun _ k => XS.aloadN X0.here hx rfl (hb hby d4_0) rfl rfl k) ?_
  obtain ⟨T3, X3, e3, st3⟩ := initO X0 hx hZ hown (hw _ (List.mem_of_getElem? (i := 21) rfl)) (hw _ (List.mem_of_getElem? (i := 22) rfl)) (hw _ (List.mem_of_getElem? (i := 23) rfl)) e0 (g := (mkF m 1 #[.val (.ref a), .val (.ref t), .val (.int (0 : Int32))] [(.ref a)])) rfl (by rw [hml]; rfl) rfl (hb hby d4_1) (by decide) (W := 0) (by show 2 * 0 + _ ≤ _; exact Nat.le_of_eq rfl) (by decide)
  refine own_st (T' := T3) (g' := (mkF m 4 #[.val (.ref a), .val (.ref t), .val (.int (0 : Int32))] [])) st3 ?_
  refine own_st (T' := T3) (g' := (mkF m 5 #[.val (.ref a), .val (.ref t), .val (.int (0 : Int32))] [(.ref a)])) (fun _ k => XS.aloadN X3.here hx rfl (hb hby d4_4) rfl rfl k) ?_
  refine own_st (T' := T3) (g' := (mkF m 6 #[.val (.ref a), .val (.ref t), .val (.int (0 : Int32))] [(.ref t), (.ref a)])) (fun _ k => XS.aloadN X3.here hx rfl (hb hby d4_5) rfl rfl k) ?_
  obtain ⟨T4, h4, X4, e4, W4, st4⟩ := putF X3 hx hZ hown (host := "") (Or.inl (hw _ (List.mem_of_getElem? (i := 24) rfl))) Via.refl e3 Fv Ea (Or.inr ⟨(hw _ (List.mem_of_getElem? (i := 25) rfl)), rfl, hnm⟩) (hw _ (List.mem_of_getElem? (i := 12) rfl)) (ty := (.array .byte)) (by decide) rfl rfl (g := (mkF m 6 #[.val (.ref a), .val (.ref t), .val (.int (0 : Int32))] [(.ref t), (.ref a)])) rfl rfl (hb hby d4_6)
  have Fc := Fc.other W4 (Or.inr (slot_ne (Or.inr (hw _ (List.mem_of_getElem? (i := 27) rfl))) (Or.inr (hw _ (List.mem_of_getElem? (i := 25) rfl))) (by decide) (t := .byte) (t' := (.array .byte)) (by decide) (by decide)))
  have Ea := Ea.wr W4
  have Z0' := Nat.le_trans Z0 (Keep.of_wr W4).1
  have Kp := Kp.wr W4 (Or.inl (List.mem_of_getElem? (i := 0) rfl))
  have N0' := Fr.snoc X4 N0 ga
  have Fv := Fv.same W4
  refine own_st (T' := T4) (g' := (mkF m 9 #[.val (.ref a), .val (.ref t), .val (.int (0 : Int32))] [])) st4 ?_
  refine own_st (T' := T4) (g' := (mkF m 10 #[.val (.ref a), .val (.ref t), .val (.int (0 : Int32))] [(.ref a)])) (fun _ k => XS.aloadN X4.here hx rfl (hb hby d4_9) rfl rfl k) ?_
  refine own_st (T' := T4) (g' := (mkF m 11 #[.val (.ref a), .val (.ref t), .val (.int (0 : Int32))] [(.int (0 : Int32)), (.ref a)])) (fun _ k => XS.iloadN X4.here hx rfl (hb hby d4_10) rfl k) ?_
  obtain ⟨T5, h5, X5, e5, W5, st5⟩ := putFN X4 hx hZ hown (hw _ (List.mem_of_getElem? (i := 26) rfl)) Via.refl e4 Fc Ea (Or.inr ⟨(hw _ (List.mem_of_getElem? (i := 27) rfl)), rfl, hnm⟩) (hw _ (List.mem_of_getElem? (i := 12) rfl)) (ty := .byte) (v' := (.int (0 : Int32))) (by decide) rfl rfl (g := (mkF m 11 #[.val (.ref a), .val (.ref t), .val (.int (0 : Int32))] [(.int (0 : Int32)), (.ref a)])) rfl rfl (hb hby d4_11)
  have Fv := Fv.other W5 (Or.inr (slot_ne (Or.inr (hw _ (List.mem_of_getElem? (i := 25) rfl))) (Or.inr (hw _ (List.mem_of_getElem? (i := 27) rfl))) (by decide) (t := (.array .byte)) (t' := .byte) (by decide) (by decide)))
  have Ea := Ea.wr W5
  have Z0'' := Nat.le_trans Z0' (Keep.of_wr W5).1
  have Kp := Kp.wr W5 (Or.inl (List.mem_of_getElem? (i := 0) rfl))
  have N0'' := Fr.snoc X5 N0' ga
  have Fc := Fc.same W5
  refine own_st (T' := T5) (g' := (mkF m 14 #[.val (.ref a), .val (.ref t), .val (.int (0 : Int32))] [])) st5 ?_
  exact own_ret0 X5 hx Bd.returns Bd.notSynchronized e5 (hb hby d4_14) ⟨rfl, N0'', Kp, Ea, Fv, Fc⟩ (by decide) (by decide)
theorem own_pd0 : parseMethodDescriptor "(C)Z" = some ⟨[.char], some .boolean⟩ := by decide +kernel
theorem own_pd1 : parseMethodDescriptor "(C)[B" = some ⟨[.char], some (.array .byte)⟩ := by decide +kernel
theorem own_pd2 : parseMethodDescriptor "([BB)V" = some ⟨[(.array .byte), .byte], none⟩ := by decide +kernel
theorem d1_0 : decode jdk_42_method_139_code 0 = .ok (.getstatic 38, 3) := by decide +kernel
theorem d1_3 : decode jdk_42_method_139_code 3 = .ok (.ifCond .eq 23, 3) := by decide +kernel
theorem d1_6 : decode jdk_42_method_139_code 6 = .ok (.iload_n 0, 1) := by decide +kernel
theorem d1_7 : decode jdk_42_method_139_code 7 = .ok (.invokestatic 1015, 3) := by decide +kernel
theorem d1_10 : decode jdk_42_method_139_code 10 = .ok (.ifCond .eq 16, 3) := by decide +kernel
theorem d1_13 : decode jdk_42_method_139_code 13 = .ok (.new 10, 3) := by decide +kernel
theorem d1_16 : decode jdk_42_method_139_code 16 = .ok (.dup, 1) := by decide +kernel
theorem d1_17 : decode jdk_42_method_139_code 17 = .ok (.iload_n 0, 1) := by decide +kernel
theorem d1_18 : decode jdk_42_method_139_code 18 = .ok (.invokestatic 1018, 3) := by decide +kernel
theorem d1_21 : decode jdk_42_method_139_code 21 = .ok (.iconst 0, 1) := by decide +kernel
theorem d1_22 : decode jdk_42_method_139_code 22 = .ok (.invokespecial 209, 3) := by decide +kernel
theorem d1_25 : decode jdk_42_method_139_code 25 = .ok (.areturn, 1) := by decide +kernel
def own_valueOf_Q (Z : State) (z : Int32) (cs : Int32) (h0 : Heap) (n0 : Nat) (v : Option Value) (h : Heap) (L : List Loc) : Prop := ∃ a t k, v = some (.ref a) ∧ Fr n0 L ∧ Keep h0 h [] ∧ h0.size ≤ a ∧ h0.size ≤ t ∧ Exa Z h a "java/lang/String" ∧ Fld Z h a "java/lang/String" "value" "[B" (.ref t) ∧ Fld Z h a "java/lang/String" "coder" "B" (.int (0 : Int32)) ∧ own_Av Z h t k .byte 1 (fun _ => .int z.toInt8.toInt32)
set_option maxRecDepth 65536 in
set_option maxHeartbeats 40000000 in
theorem own_valueOf (l : Launch) (Z : State) (a0 : Array Value) (hw : ∀ d ∈ tables_1, d.before a0 Z = true) (ws : List Jvm.Cond) (z : Int32) (cs : Int32) (h0 : Heap) (n0 : Nat) (Z0 : n0 ≤ h0.size) (hz : ¬ (255 : Int32) < z) (SC : Sta Z h0 "java/lang/String" "COMPACT_STRINGS" "Z" (.int cs)) (hcs : ¬ cs = (0 : Int32)) :
    MetFree l (⟨"java/lang/String", "valueOf", "(C)Ljava/lang/String;"⟩ : MethodName) (head1 (Jvm.Cond.code (⟨"java/lang/String", "valueOf", "(C)Ljava/lang/String;"⟩ : MethodName) jdk_42_method_139_code 1 (some (.object "java/lang/String")) :: ws) ({ frames := 2, cells := 2, slots := 5, locals := 27 } : Room)) (fun aa U0 => aa = #[(.int z)] ∧ Z.Warmed39 U0.vm ∧ U0.heap = h0) (fun _ _ _ _ _ => True) (fun _ U0 o0 U1 => ∃ v0 L0, o0 = .returned v0 ∧ own_valueOf_Q Z z cs h0 n0 v0 U1.heap L0 ∧ FrameEnd U0 o0 U1 L0 ({ frames := 2, cells := 2, slots := 5, locals := 27 } : Room).cells ({ frames := 2, cells := 2, slots := 5, locals := 27 } : Room).slots) := by
  refine MetFree.of_bodySF (plainFor_of_name own_pn1) hisR ?_
  intro p e s m args below meth c s₁ Bd hml0 hP hK
  obtain ⟨rfl, hZ, hh⟩ := hP
  have hx := Bd.exec
  have hby := Bd.bytes
  have hml : c.maxLocals = 1 := hml0
  have hown : s.vm.findClass "java/lang/String" = some m.cls := findClass_of_methodNamed Bd.named
  have hnm := (name_of_methodNamed Bd.named Bd.method).1
  have X0 : Stand p l e ({ frames := 2, cells := 2, slots := 5, locals := 27 } : Room) s m #[(.int z)] below meth c s₁ [] 0 0 := Stand.of_body Bd
  have e0 : s₁.heap = h0 := by rw [← hh, Bd.state]; rfl
  have N0 := Fr.nil n0
  show own_Go p e below s (own_valueOf_Q Z z cs h0 n0) 2 5 s₁ (entryFrame m #[(.int z)] 1)
  rw [show entryFrame m #[(.int z)] 1 = mkF m 0 #[.val (.int z)] [] from by first | (simp [entryFrame, mkF, argsToLocals, Value.category]; done) | rfl]
  have Kp := Keep.refl h0 []
  obtain ⟨T6, X6, e6, st6⟩ := getS2 X0 hx hZ hown (host := "") (Or.inl (hw _ (List.mem_of_getElem? (i := 6) rfl))) Via.refl e0 SC (g := (mkF m 0 #[.val (.int z)] [])) rfl (hb hby d1_0)
  refine own_st (T' := T6) (g' := (mkF m 3 #[.val (.int z)] [(.int cs)])) st6 ?_
  refine own_st (T' := T6) (g' := (mkF m 6 #[.val (.int z)] [])) (fun _ k => XS.ifNo X6.here hx rfl (hb hby d1_3) rfl (Jvm.Free.XT.i0_eq_f hcs) k) ?_
  refine own_st (T' := T6) (g' := (mkF m 7 #[.val (.int z)] [(.int z)])) (fun _ k => XS.iloadN X6.here hx rfl (hb hby d1_6) rfl k) ?_
  obtain ⟨_, _, ⟨T7, L7, k7, n7⟩, -, X7, ⟨Lc7, hQ7, l7, y7, z7⟩, st7⟩ := Jvm.LawKit.callS X6 hx (y := (⟨"java/lang/StringLatin1", "canEncode", "(C)Z"⟩ : MethodName)) hown (mvT hZ (hw _ (List.mem_of_getElem? (i := 7) rfl))) (mvT hZ (hw _ (List.mem_of_getElem? (i := 8) rfl))) (mvT hZ (hw _ (List.mem_of_getElem? (i := 9) rfl))) (mvT hZ (hw _ (List.mem_of_getElem? (i := 10) rfl))) (by decide) (backOf (W := 0) (own_canEnc l Z a0 hw [] z h0 n0 Z0 hz) hZ (hw _ (List.mem_of_getElem? (i := 10) rfl)) (hw _ (List.mem_of_getElem? (i := 9) rfl)) (by decide) (by decide)) (g := (mkF m 7 #[.val (.int z)] [(.int z)])) rfl (by rw [hml]; rfl) (argsL := [(.int z)]) (rest := []) (lenOf own_pd0 rfl) rfl (by show 2 * 0 + _ ≤ _; exact Nat.le_of_eq rfl) (hb hby d1_7) (fun _ _ => ⟨rfl, e6, (by decide : 0 + 0 ≤ _), (by decide : 0 + 0 ≤ _)⟩)
  dsimp only [Pt.U, Pt.locs, Pt.cells, Pt.slots] at X7 l7 y7 z7 st7 hQ7
  subst l7 y7 z7
  obtain ⟨rfl, N7q, e7⟩ := hQ7
  have N0' := Fr.app N0 N7q
  refine own_st (T' := T7) (g' := (mkF m 10 #[.val (.int z)] [(.int (1 : Int32))])) st7 ?_
  refine own_st (T' := T7) (g' := (mkF m 13 #[.val (.int z)] [])) (fun _ k => XS.ifNo X7.here hx rfl (hb hby d1_10) rfl (Jvm.Free.XT.i0_eq_f (by decide)) k) ?_
  obtain ⟨T8, h8, X8, e8, E8, A8, D8, -, st8⟩ := newO X7 hx hZ hown (hw _ (List.mem_of_getElem? (i := 11) rfl)) (hw _ (List.mem_of_getElem? (i := 12) rfl)) (hw _ (List.mem_of_getElem? (i := 4) rfl)) e7 (g := (mkF m 13 #[.val (.int z)] [])) rfl (hb hby d1_13) (by decide) (by decide)
  obtain ⟨a, ga⟩ : ∃ z, z = h0.size := ⟨_, rfl⟩
  rw [← ga] at A8 D8 st8
  have ge_a : n0 ≤ a := own_ge Z0 ga
  have sz_a : h0.size ≤ a := own_ge Kp.1 ga
  have Z0' := Nat.le_trans Z0 E8.1
  have Kp := Kp.ext E8
  have E_a := A8
  have F_value_a : Fld Z h8 a "java/lang/String" "value" "[B" .null := D8 (Or.inr (hw _ (List.mem_of_getElem? (i := 25) rfl))) (ty := (.array .byte)) (by decide)
  have F_coder_a : Fld Z h8 a "java/lang/String" "coder" "B" (.int (0 : Int32)) := D8 (Or.inr (hw _ (List.mem_of_getElem? (i := 27) rfl))) (ty := .byte) (by decide)
  refine own_st (T' := T8) (g' := (mkF m 16 #[.val (.int z)] [(.ref a)])) st8 ?_
  refine own_st (T' := T8) (g' := (mkF m 17 #[.val (.int z)] [(.ref a), (.ref a)])) (fun _ k => XS.dup X8.here hx rfl (hb hby d1_16) rfl rfl k) ?_
  refine own_st (T' := T8) (g' := (mkF m 18 #[.val (.int z)] [(.int z), (.ref a), (.ref a)])) (fun _ k => XS.iloadN X8.here hx rfl (hb hby d1_17) rfl k) ?_
  have lt_a := E_a.lt
  obtain ⟨_, _, ⟨T9, L9, k9, n9⟩, -, X9, ⟨Lc9, hQ9, l9, y9, z9⟩, st9⟩ := Jvm.LawKit.callS X8 hx (y := (⟨"java/lang/StringLatin1", "toBytes", "(C)[B"⟩ : MethodName)) hown (mvT hZ (hw _ (List.mem_of_getElem? (i := 13) rfl))) (mvT hZ (hw _ (List.mem_of_getElem? (i := 14) rfl))) (mvT hZ (hw _ (List.mem_of_getElem? (i := 9) rfl))) (mvT hZ (hw _ (List.mem_of_getElem? (i := 15) rfl))) (by decide) (backOf (W := 2) (own_toBytes l Z a0 hw [] z h8 n0 Z0' ) hZ (hw _ (List.mem_of_getElem? (i := 15) rfl)) (hw _ (List.mem_of_getElem? (i := 9) rfl)) (by decide) (by decide)) (g := (mkF m 18 #[.val (.int z)] [(.int z), (.ref a), (.ref a)])) rfl (by rw [hml]; rfl) (argsL := [(.int z)]) (rest := [(.ref a), (.ref a)]) (lenOf own_pd1 rfl) rfl (by show 2 * 0 + _ ≤ _; exact Nat.le_of_eq rfl) (hb hby d1_18) (fun _ _ => ⟨rfl, e8, (by decide : ((0 + 0) + 1) + 1 ≤ _), (by decide : ((0 + 0) + 4) + 1 ≤ _)⟩)
  dsimp only [Pt.U, Pt.locs, Pt.cells, Pt.slots] at X9 l9 y9 z9 st9 hQ9
  subst l9 y9 z9
  obtain ⟨t, kt, rfl, N9q, K9, gt, Vt⟩ := hQ9
  have N0'' := Fr.app N0' N9q
  have ne_a_t : a ≠ t := own_ne2 lt_a gt
  have ge_t : n0 ≤ t := Nat.le_trans Z0' gt
  have sz_t : h0.size ≤ t := Nat.le_trans Kp.1 gt
  have E_a := E_a.keep K9
  have F_value_a := F_value_a.keep K9 nin0
  have F_coder_a := F_coder_a.keep K9 nin0
  have Z0'' := Nat.le_trans Z0' K9.1
  have Kp := Kp.trans K9 all0
  refine own_st (T' := T9) (g' := (mkF m 21 #[.val (.int z)] [(.ref t), (.ref a), (.ref a)])) st9 ?_
  refine own_st (T' := T9) (g' := (mkF m 22 #[.val (.int z)] [(.int (0 : Int32)), (.ref t), (.ref a), (.ref a)])) (fun _ k => XS.iconst X9.here hx rfl (hb hby d1_21) k) ?_
  obtain ⟨_, _, ⟨T10, L10, k10, n10⟩, -, X10, ⟨Lc10, hQ10, l10, y10, z10⟩, st10⟩ := X9.specialBack hx (y := (⟨"java/lang/String", "<init>", "([BB)V"⟩ : MethodName)) rfl hown (mvT hZ (hw _ (List.mem_of_getElem? (i := 17) rfl))) (mvT hZ (hw _ (List.mem_of_getElem? (i := 18) rfl))) (mvT hZ (hw _ (List.mem_of_getElem? (i := 20) rfl))) (by decide) (backOf (W := 1) (own_strIni l Z a0 hw [] a t T9.heap n0 Z0'' F_value_a F_coder_a E_a ge_a) hZ (hw _ (List.mem_of_getElem? (i := 20) rfl)) (hw _ (List.mem_of_getElem? (i := 4) rfl)) (by decide) (by decide)) (g := (mkF m 22 #[.val (.int z)] [(.int (0 : Int32)), (.ref t), (.ref a), (.ref a)])) rfl (by rw [hml]; rfl) (Steps.refl _) (a := a) (argsL := [(.ref t), (.int (0 : Int32))]) (rest := [(.ref a)]) (lenOf own_pd2 rfl) rfl (by show 2 * 0 + _ ≤ _; exact Nat.le_of_eq rfl) (hb hby d1_22) (fun _ _ => ⟨rfl, rfl, (by decide : (((0 + 0) + 1) + 1) + 0 ≤ _), (by decide : (((0 + 0) + 4) + 1) + 0 ≤ _)⟩)
  dsimp only [Pt.U, Pt.locs, Pt.cells, Pt.slots] at X10 l10 y10 z10 st10 hQ10
  subst l10 y10 z10
  obtain ⟨rfl, N10q, K10, -, Fv, Fc⟩ := hQ10
  have N0''' := Fr.app N0'' N10q
  have E_a := E_a.keep K10
  have Vt := Vt.keep K10 (ninS (Ne.symm ne_a_t) nin0)
  have Z0''' := Nat.le_trans Z0'' K10.1
  have Kp := Kp.trans K10 (allS (P := fun x => x ∈ [] ∨ h0.size ≤ x) (Or.inr sz_a) all0)
  refine own_tr (T' := T10) (g' := (mkF m 25 #[.val (.int z)] [(.ref a)])) st10 ?_
  exact own_retR X10 hx Bd.returns Bd.notSynchronized rfl rfl rfl (hb hby d1_25) ⟨a, t, kt, rfl, N0''', Kp, sz_a, sz_t, E_a, Fv, Fc, Vt⟩ (by decide) (by decide)
theorem d6_0 : decode prog_22_method_1_code 0 = .ok (.aload_n 0, 1) := by decide +kernel
theorem d6_1 : decode prog_22_method_1_code 1 = .ok (.invokespecial 1, 3) := by decide +kernel
theorem d6_4 : decode prog_22_method_1_code 4 = .ok (.aload_n 0, 1) := by decide +kernel
theorem d6_5 : decode prog_22_method_1_code 5 = .ok (.iconst 0, 1) := by decide +kernel
theorem d6_6 : decode prog_22_method_1_code 6 = .ok (.newarray .byte, 2) := by decide +kernel
theorem d6_8 : decode prog_22_method_1_code 8 = .ok (.putfield 7, 3) := by decide +kernel
theorem d6_11 : decode prog_22_method_1_code 11 = .ok (.aload_n 0, 1) := by decide +kernel
theorem d6_12 : decode prog_22_method_1_code 12 = .ok (.bipush 16, 2) := by decide +kernel
theorem d6_14 : decode prog_22_method_1_code 14 = .ok (.newarray .long, 2) := by decide +kernel
theorem d6_16 : decode prog_22_method_1_code 16 = .ok (.putfield 13, 3) := by decide +kernel
theorem d6_19 : decode prog_22_method_1_code 19 = .ok (.aload_n 0, 1) := by decide +kernel
theorem d6_20 : decode prog_22_method_1_code 20 = .ok (.bipush 16, 2) := by decide +kernel
theorem d6_22 : decode prog_22_method_1_code 22 = .ok (.newarray .int, 2) := by decide +kernel
theorem d6_24 : decode prog_22_method_1_code 24 = .ok (.putfield 17, 3) := by decide +kernel
theorem d6_27 : decode prog_22_method_1_code 27 = .ok (.aload_n 0, 1) := by decide +kernel
theorem d6_28 : decode prog_22_method_1_code 28 = .ok (.iload_n 1, 1) := by decide +kernel
theorem d6_29 : decode prog_22_method_1_code 29 = .ok (.putfield 21, 3) := by decide +kernel
theorem d6_32 : decode prog_22_method_1_code 32 = .ok (.aload_n 0, 1) := by decide +kernel
theorem d6_33 : decode prog_22_method_1_code 33 = .ok (.aload_n 0, 1) := by decide +kernel
theorem d6_34 : decode prog_22_method_1_code 34 = .ok (.getfield 13, 3) := by decide +kernel
theorem d6_37 : decode prog_22_method_1_code 37 = .ok (.arraylength, 1) := by decide +kernel
theorem d6_38 : decode prog_22_method_1_code 38 = .ok (.iload_n 1, 1) := by decide +kernel
theorem d6_39 : decode prog_22_method_1_code 39 = .ok (.imul, 1) := by decide +kernel
theorem d6_40 : decode prog_22_method_1_code 40 = .ok (.anewarray 25, 3) := by decide +kernel
theorem d6_43 : decode prog_22_method_1_code 43 = .ok (.putfield 27, 3) := by decide +kernel
theorem d6_46 : decode prog_22_method_1_code 46 = .ok (.return_, 1) := by decide +kernel
theorem own_pn2 : plainName "com/example/funnelwright/funnelwright/UserEvents" = true := by first | (simp [plainName, overriddenIn]; done) | decide +kernel
def own_ini_Q (Z : State) (a : Addr) (pc : Int32) (N : Nat) (h0 : Heap) (n0 : Nat) (v : Option Value) (h : Heap) (L : List Loc) : Prop := v = none ∧ Fr n0 L ∧ Keep h0 h [a] ∧ Exa Z h a "com/example/funnelwright/funnelwright/UserEvents" ∧ Fld Z h a "com/example/funnelwright/funnelwright/UserEvents" "propertyCount" "I" (.int pc) ∧ Fld Z h a "com/example/funnelwright/funnelwright/UserEvents" "size" "I" (.int (0 : Int32)) ∧ ∃ t k, Fld Z h a "com/example/funnelwright/funnelwright/UserEvents" "properties" "[Ljava/lang/String;" (.ref t) ∧ own_Av Z h t k (.object "java/lang/String") N (fun _ => .null) ∧ Ovr Z k "java/lang/String" ∧ h0.size ≤ t
set_option maxRecDepth 65536 in
set_option maxHeartbeats 40000000 in
theorem own_ini (l : Launch) (Z : State) (a0 : Array Value) (hw : ∀ d ∈ tables_1, d.before a0 Z = true) (ws : List Jvm.Cond) (a : Addr) (pc : Int32) (N : Nat) (h0 : Heap) (n0 : Nat) (Z0 : n0 ≤ h0.size) (F_id : Fld Z h0 a "com/example/funnelwright/funnelwright/UserEvents" "id" "[B" .null) (F_times : Fld Z h0 a "com/example/funnelwright/funnelwright/UserEvents" "times" "[J" .null) (F_kinds : Fld Z h0 a "com/example/funnelwright/funnelwright/UserEvents" "kinds" "[I" .null) (F_propertyCount : Fld Z h0 a "com/example/funnelwright/funnelwright/UserEvents" "propertyCount" "I" (.int (0 : Int32))) (F_properties : Fld Z h0 a "com/example/funnelwright/funnelwright/UserEvents" "properties" "[Ljava/lang/String;" .null) (F_size : Fld Z h0 a "com/example/funnelwright/funnelwright/UserEvents" "size" "I" (.int (0 : Int32))) (Ea : Exa Z h0 a "com/example/funnelwright/funnelwright/UserEvents") (ga : n0 ≤ a) (hN : ((16 : Int32) * pc).toInt = N) (hN64 : N ≤ 64) :
    MetFree l (⟨"com/example/funnelwright/funnelwright/UserEvents", "<init>", "(I)V"⟩ : MethodName) (head1 (Jvm.Cond.code (⟨"com/example/funnelwright/funnelwright/UserEvents", "<init>", "(I)V"⟩ : MethodName) prog_22_method_1_code 2 none :: ws) ({ frames := 1, cells := 4, slots := 96, locals := 12 } : Room)) (fun aa U0 => aa = #[(.ref a), (.int pc)] ∧ Z.Warmed39 U0.vm ∧ U0.heap = h0) (fun _ _ _ _ _ => True) (fun _ U0 o0 U1 => ∃ v0 L0, o0 = .returned v0 ∧ own_ini_Q Z a pc N h0 n0 v0 U1.heap L0 ∧ FrameEnd U0 o0 U1 L0 ({ frames := 1, cells := 4, slots := 96, locals := 12 } : Room).cells ({ frames := 1, cells := 4, slots := 96, locals := 12 } : Room).slots) := by
  refine MetFree.of_bodySF (plainFor_of_name own_pn2) hisR ?_
  intro p e s m args below meth c s₁ Bd hml0 hP hK
  obtain ⟨rfl, hZ, hh⟩ := hP
  have hx := Bd.exec
  have hby := Bd.bytes
  have hml : c.maxLocals = 2 := hml0
  have hown : s.vm.findClass "com/example/funnelwright/funnelwright/UserEvents" = some m.cls := findClass_of_methodNamed Bd.named
  have hnm := (name_of_methodNamed Bd.named Bd.method).1
  have X0 : Stand p l e ({ frames := 1, cells := 4, slots := 96, locals := 12 } : Room) s m #[(.ref a), (.int pc)] below meth c s₁ [] 0 0 := Stand.of_body Bd
  have e0 : s₁.heap = h0 := by rw [← hh, Bd.state]; rfl
  have N0 := Fr.nil n0
  show own_Go p e below s (own_ini_Q Z a pc N h0 n0) 4 96 s₁ (entryFrame m #[(.ref a), (.int pc)] 2)
  rw [show entryFrame m #[(.ref a), (.int pc)] 2 = mkF m 0 #[.val (.ref a), .val (.int pc)] [] from by first | (simp [entryFrame, mkF, argsToLocals, Value.category]; done) | rfl]
  have Kp := Keep.refl h0 [a]
  refine own_st (T' := s₁) (g' := (mkF m 1 #[.val (.ref a), .val (.int pc)] [(.ref a)])) (fun _ k => XS.aloadN X0.here hx rfl (hb hby d6_0) rfl rfl k) ?_
  obtain ⟨T11, X11, e11, st11⟩ := initO X0 hx hZ hown (hw _ (List.mem_of_getElem? (i := 34) rfl)) (hw _ (List.mem_of_getElem? (i := 22) rfl)) (hw _ (List.mem_of_getElem? (i := 23) rfl)) e0 (g := (mkF m 1 #[.val (.ref a), .val (.int pc)] [(.ref a)])) rfl (by rw [hml]; rfl) rfl (hb hby d6_1) (by decide) (W := 0) (by show 2 * 0 + _ ≤ _; exact Nat.le_of_eq rfl) (by decide)
  refine own_st (T' := T11) (g' := (mkF m 4 #[.val (.ref a), .val (.int pc)] [])) st11 ?_
  refine own_st (T' := T11) (g' := (mkF m 5 #[.val (.ref a), .val (.int pc)] [(.ref a)])) (fun _ k => XS.aloadN X11.here hx rfl (hb hby d6_4) rfl rfl k) ?_
  refine own_st (T' := T11) (g' := (mkF m 6 #[.val (.ref a), .val (.int pc)] [(.int (0 : Int32)), (.ref a)])) (fun _ k => XS.iconst X11.here hx rfl (hb hby d6_5) k) ?_
  obtain ⟨T12, h12, k12, X12, e12, E12, A12, st12⟩ := newP X11 hx hZ (hw _ (List.mem_of_getElem? (i := 16) rfl)) e11 (g := (mkF m 6 #[.val (.ref a), .val (.int pc)] [(.int (0 : Int32)), (.ref a)])) rfl (hb hby d6_6) rfl (by decide) (cap := 0) (by decide) (by decide) (by decide) (by decide)
  obtain ⟨bi, gbi⟩ : ∃ z, z = h0.size := ⟨_, rfl⟩
  rw [← gbi] at A12 st12
  have ne_a_bi : a ≠ bi := own_ne F_id.lt gbi
  have ge_bi : n0 ≤ bi := own_ge Z0 gbi
  have sz_bi : h0.size ≤ bi := own_ge Kp.1 gbi
  have F_id := F_id.ext E12
  have F_times := F_times.ext E12
  have F_kinds := F_kinds.ext E12
  have F_propertyCount := F_propertyCount.ext E12
  have F_properties := F_properties.ext E12
  have F_size := F_size.ext E12
  have Ea := Ea.ext E12
  have Z0' := Nat.le_trans Z0 E12.1
  have Kp := Kp.ext E12
  have V_bi := own_Av.new (n := 0) A12 rfl
  refine own_st (T' := T12) (g' := (mkF m 8 #[.val (.ref a), .val (.int pc)] [(.ref bi), (.ref a)])) st12 ?_
  obtain ⟨T13, h13, X13, e13, W13, st13⟩ := putF X12 hx hZ hown (host := "") (Or.inl (hw _ (List.mem_of_getElem? (i := 35) rfl))) Via.refl e12 F_id Ea (Or.inl (hw _ (List.mem_of_getElem? (i := 36) rfl))) (hw _ (List.mem_of_getElem? (i := 29) rfl)) (ty := (.array .byte)) (by decide) rfl rfl (g := (mkF m 8 #[.val (.ref a), .val (.int pc)] [(.ref bi), (.ref a)])) rfl rfl (hb hby d6_8)
  have F_times := F_times.other W13 (Or.inr (slot_ne (Or.inl (hw _ (List.mem_of_getElem? (i := 39) rfl))) (Or.inl (hw _ (List.mem_of_getElem? (i := 36) rfl))) (by decide) (t := (.array .long)) (t' := (.array .byte)) (by decide) (by decide)))
  have F_kinds := F_kinds.other W13 (Or.inr (slot_ne (Or.inl (hw _ (List.mem_of_getElem? (i := 42) rfl))) (Or.inl (hw _ (List.mem_of_getElem? (i := 36) rfl))) (by decide) (t := (.array .int)) (t' := (.array .byte)) (by decide) (by decide)))
  have F_propertyCount := F_propertyCount.other W13 (Or.inr (slot_ne (Or.inr (hw _ (List.mem_of_getElem? (i := 44) rfl))) (Or.inl (hw _ (List.mem_of_getElem? (i := 36) rfl))) (by decide) (t := .int) (t' := (.array .byte)) (by decide) (by decide)))
  have F_properties := F_properties.other W13 (Or.inr (slot_ne (Or.inl (hw _ (List.mem_of_getElem? (i := 48) rfl))) (Or.inl (hw _ (List.mem_of_getElem? (i := 36) rfl))) (by decide) (t := (.array (.object "java/lang/String"))) (t' := (.array .byte)) (by decide) (by decide)))
  have F_size := F_size.other W13 (Or.inr (slot_ne (Or.inl (hw _ (List.mem_of_getElem? (i := 65) rfl))) (Or.inl (hw _ (List.mem_of_getElem? (i := 36) rfl))) (by decide) (t := .int) (t' := (.array .byte)) (by decide) (by decide)))
  have Ea := Ea.wr W13
  have V_bi := V_bi.other W13 (Ne.symm ne_a_bi)
  have Z0'' := Nat.le_trans Z0' (Keep.of_wr W13).1
  have Kp := Kp.wr W13 (Or.inl (List.mem_of_getElem? (i := 0) rfl))
  have N0' := Fr.snoc X13 N0 ga
  have F_id := F_id.same W13
  refine own_st (T' := T13) (g' := (mkF m 11 #[.val (.ref a), .val (.int pc)] [])) st13 ?_
  refine own_st (T' := T13) (g' := (mkF m 12 #[.val (.ref a), .val (.int pc)] [(.ref a)])) (fun _ k => XS.aloadN X13.here hx rfl (hb hby d6_11) rfl rfl k) ?_
  refine own_st (T' := T13) (g' := (mkF m 14 #[.val (.ref a), .val (.int pc)] [(.int (16 : Int32)), (.ref a)])) (fun _ k => XS.bipush X13.here hx rfl (hb hby d6_12) k) ?_
  obtain ⟨T14, h14, k14, X14, e14, E14, A14, st14⟩ := newP X13 hx hZ (hw _ (List.mem_of_getElem? (i := 37) rfl)) e13 (g := (mkF m 14 #[.val (.ref a), .val (.int pc)] [(.int (16 : Int32)), (.ref a)])) rfl (hb hby d6_14) rfl (by decide) (cap := 16) (by decide) (by decide) (by decide) (by decide)
  obtain ⟨bt, gbt⟩ : ∃ z, z = h13.size := ⟨_, rfl⟩
  rw [← gbt] at A14 st14
  have ne_a_bt : a ≠ bt := own_ne F_id.lt gbt
  have ne_bi_bt : bi ≠ bt := own_ne V_bi.lt gbt
  have ge_bt : n0 ≤ bt := own_ge Z0'' gbt
  have sz_bt : h0.size ≤ bt := own_ge Kp.1 gbt
  have F_id := F_id.ext E14
  have F_times := F_times.ext E14
  have F_kinds := F_kinds.ext E14
  have F_propertyCount := F_propertyCount.ext E14
  have F_properties := F_properties.ext E14
  have F_size := F_size.ext E14
  have Ea := Ea.ext E14
  have V_bi := V_bi.ext E14
  have Z0''' := Nat.le_trans Z0'' E14.1
  have Kp := Kp.ext E14
  have V_bt := own_Av.new (n := 16) A14 rfl
  refine own_st (T' := T14) (g' := (mkF m 16 #[.val (.ref a), .val (.int pc)] [(.ref bt), (.ref a)])) st14 ?_
  obtain ⟨T15, h15, X15, e15, W15, st15⟩ := putF X14 hx hZ hown (host := "") (Or.inl (hw _ (List.mem_of_getElem? (i := 38) rfl))) Via.refl e14 F_times Ea (Or.inl (hw _ (List.mem_of_getElem? (i := 39) rfl))) (hw _ (List.mem_of_getElem? (i := 29) rfl)) (ty := (.array .long)) (by decide) rfl rfl (g := (mkF m 16 #[.val (.ref a), .val (.int pc)] [(.ref bt), (.ref a)])) rfl rfl (hb hby d6_16)
  have F_id := F_id.other W15 (Or.inr (slot_ne (Or.inl (hw _ (List.mem_of_getElem? (i := 36) rfl))) (Or.inl (hw _ (List.mem_of_getElem? (i := 39) rfl))) (by decide) (t := (.array .byte)) (t' := (.array .long)) (by decide) (by decide)))
  have F_kinds := F_kinds.other W15 (Or.inr (slot_ne (Or.inl (hw _ (List.mem_of_getElem? (i := 42) rfl))) (Or.inl (hw _ (List.mem_of_getElem? (i := 39) rfl))) (by decide) (t := (.array .int)) (t' := (.array .long)) (by decide) (by decide)))
  have F_propertyCount := F_propertyCount.other W15 (Or.inr (slot_ne (Or.inr (hw _ (List.mem_of_getElem? (i := 44) rfl))) (Or.inl (hw _ (List.mem_of_getElem? (i := 39) rfl))) (by decide) (t := .int) (t' := (.array .long)) (by decide) (by decide)))
  have F_properties := F_properties.other W15 (Or.inr (slot_ne (Or.inl (hw _ (List.mem_of_getElem? (i := 48) rfl))) (Or.inl (hw _ (List.mem_of_getElem? (i := 39) rfl))) (by decide) (t := (.array (.object "java/lang/String"))) (t' := (.array .long)) (by decide) (by decide)))
  have F_size := F_size.other W15 (Or.inr (slot_ne (Or.inl (hw _ (List.mem_of_getElem? (i := 65) rfl))) (Or.inl (hw _ (List.mem_of_getElem? (i := 39) rfl))) (by decide) (t := .int) (t' := (.array .long)) (by decide) (by decide)))
  have Ea := Ea.wr W15
  have V_bi := V_bi.other W15 (Ne.symm ne_a_bi)
  have V_bt := V_bt.other W15 (Ne.symm ne_a_bt)
  have Z0'''' := Nat.le_trans Z0''' (Keep.of_wr W15).1
  have Kp := Kp.wr W15 (Or.inl (List.mem_of_getElem? (i := 0) rfl))
  have N0'' := Fr.snoc X15 N0' ga
  have F_times := F_times.same W15
  refine own_st (T' := T15) (g' := (mkF m 19 #[.val (.ref a), .val (.int pc)] [])) st15 ?_
  refine own_st (T' := T15) (g' := (mkF m 20 #[.val (.ref a), .val (.int pc)] [(.ref a)])) (fun _ k => XS.aloadN X15.here hx rfl (hb hby d6_19) rfl rfl k) ?_
  refine own_st (T' := T15) (g' := (mkF m 22 #[.val (.ref a), .val (.int pc)] [(.int (16 : Int32)), (.ref a)])) (fun _ k => XS.bipush X15.here hx rfl (hb hby d6_20) k) ?_
  obtain ⟨T16, h16, k16, X16, e16, E16, A16, st16⟩ := newP X15 hx hZ (hw _ (List.mem_of_getElem? (i := 40) rfl)) e15 (g := (mkF m 22 #[.val (.ref a), .val (.int pc)] [(.int (16 : Int32)), (.ref a)])) rfl (hb hby d6_22) rfl (by decide) (cap := 16) (by decide) (by decide) (by decide) (by decide)
  obtain ⟨bk, gbk⟩ : ∃ z, z = h15.size := ⟨_, rfl⟩
  rw [← gbk] at A16 st16
  have ne_a_bk : a ≠ bk := own_ne F_id.lt gbk
  have ne_bi_bk : bi ≠ bk := own_ne V_bi.lt gbk
  have ne_bt_bk : bt ≠ bk := own_ne V_bt.lt gbk
  have ge_bk : n0 ≤ bk := own_ge Z0'''' gbk
  have sz_bk : h0.size ≤ bk := own_ge Kp.1 gbk
  have F_id := F_id.ext E16
  have F_times := F_times.ext E16
  have F_kinds := F_kinds.ext E16
  have F_propertyCount := F_propertyCount.ext E16
  have F_properties := F_properties.ext E16
  have F_size := F_size.ext E16
  have Ea := Ea.ext E16
  have V_bi := V_bi.ext E16
  have V_bt := V_bt.ext E16
  have Z0''''' := Nat.le_trans Z0'''' E16.1
  have Kp := Kp.ext E16
  have V_bk := own_Av.new (n := 16) A16 rfl
  refine own_st (T' := T16) (g' := (mkF m 24 #[.val (.ref a), .val (.int pc)] [(.ref bk), (.ref a)])) st16 ?_
  obtain ⟨T17, h17, X17, e17, W17, st17⟩ := putF X16 hx hZ hown (host := "") (Or.inl (hw _ (List.mem_of_getElem? (i := 41) rfl))) Via.refl e16 F_kinds Ea (Or.inl (hw _ (List.mem_of_getElem? (i := 42) rfl))) (hw _ (List.mem_of_getElem? (i := 29) rfl)) (ty := (.array .int)) (by decide) rfl rfl (g := (mkF m 24 #[.val (.ref a), .val (.int pc)] [(.ref bk), (.ref a)])) rfl rfl (hb hby d6_24)
  have F_id := F_id.other W17 (Or.inr (slot_ne (Or.inl (hw _ (List.mem_of_getElem? (i := 36) rfl))) (Or.inl (hw _ (List.mem_of_getElem? (i := 42) rfl))) (by decide) (t := (.array .byte)) (t' := (.array .int)) (by decide) (by decide)))
  have F_times := F_times.other W17 (Or.inr (slot_ne (Or.inl (hw _ (List.mem_of_getElem? (i := 39) rfl))) (Or.inl (hw _ (List.mem_of_getElem? (i := 42) rfl))) (by decide) (t := (.array .long)) (t' := (.array .int)) (by decide) (by decide)))
  have F_propertyCount := F_propertyCount.other W17 (Or.inr (slot_ne (Or.inr (hw _ (List.mem_of_getElem? (i := 44) rfl))) (Or.inl (hw _ (List.mem_of_getElem? (i := 42) rfl))) (by decide) (t := .int) (t' := (.array .int)) (by decide) (by decide)))
  have F_properties := F_properties.other W17 (Or.inr (slot_ne (Or.inl (hw _ (List.mem_of_getElem? (i := 48) rfl))) (Or.inl (hw _ (List.mem_of_getElem? (i := 42) rfl))) (by decide) (t := (.array (.object "java/lang/String"))) (t' := (.array .int)) (by decide) (by decide)))
  have F_size := F_size.other W17 (Or.inr (slot_ne (Or.inl (hw _ (List.mem_of_getElem? (i := 65) rfl))) (Or.inl (hw _ (List.mem_of_getElem? (i := 42) rfl))) (by decide) (t := .int) (t' := (.array .int)) (by decide) (by decide)))
  have Ea := Ea.wr W17
  have V_bi := V_bi.other W17 (Ne.symm ne_a_bi)
  have V_bt := V_bt.other W17 (Ne.symm ne_a_bt)
  have V_bk := V_bk.other W17 (Ne.symm ne_a_bk)
  have Z0'''''' := Nat.le_trans Z0''''' (Keep.of_wr W17).1
  have Kp := Kp.wr W17 (Or.inl (List.mem_of_getElem? (i := 0) rfl))
  have N0''' := Fr.snoc X17 N0'' ga
  have F_kinds := F_kinds.same W17
  refine own_st (T' := T17) (g' := (mkF m 27 #[.val (.ref a), .val (.int pc)] [])) st17 ?_
  refine own_st (T' := T17) (g' := (mkF m 28 #[.val (.ref a), .val (.int pc)] [(.ref a)])) (fun _ k => XS.aloadN X17.here hx rfl (hb hby d6_27) rfl rfl k) ?_
  refine own_st (T' := T17) (g' := (mkF m 29 #[.val (.ref a), .val (.int pc)] [(.int pc), (.ref a)])) (fun _ k => XS.iloadN X17.here hx rfl (hb hby d6_28) rfl k) ?_
  obtain ⟨T18, h18, X18, e18, W18, st18⟩ := putF X17 hx hZ hown (host := "") (Or.inl (hw _ (List.mem_of_getElem? (i := 43) rfl))) Via.refl e17 F_propertyCount Ea (Or.inr ⟨(hw _ (List.mem_of_getElem? (i := 44) rfl)), rfl, hnm⟩) (hw _ (List.mem_of_getElem? (i := 29) rfl)) (ty := .int) (by decide) rfl rfl (g := (mkF m 29 #[.val (.ref a), .val (.int pc)] [(.int pc), (.ref a)])) rfl rfl (hb hby d6_29)
  have F_id := F_id.other W18 (Or.inr (slot_ne (Or.inl (hw _ (List.mem_of_getElem? (i := 36) rfl))) (Or.inr (hw _ (List.mem_of_getElem? (i := 44) rfl))) (by decide) (t := (.array .byte)) (t' := .int) (by decide) (by decide)))
  have F_times := F_times.other W18 (Or.inr (slot_ne (Or.inl (hw _ (List.mem_of_getElem? (i := 39) rfl))) (Or.inr (hw _ (List.mem_of_getElem? (i := 44) rfl))) (by decide) (t := (.array .long)) (t' := .int) (by decide) (by decide)))
  have F_kinds := F_kinds.other W18 (Or.inr (slot_ne (Or.inl (hw _ (List.mem_of_getElem? (i := 42) rfl))) (Or.inr (hw _ (List.mem_of_getElem? (i := 44) rfl))) (by decide) (t := (.array .int)) (t' := .int) (by decide) (by decide)))
  have F_properties := F_properties.other W18 (Or.inr (slot_ne (Or.inl (hw _ (List.mem_of_getElem? (i := 48) rfl))) (Or.inr (hw _ (List.mem_of_getElem? (i := 44) rfl))) (by decide) (t := (.array (.object "java/lang/String"))) (t' := .int) (by decide) (by decide)))
  have F_size := F_size.other W18 (Or.inr (slot_ne (Or.inl (hw _ (List.mem_of_getElem? (i := 65) rfl))) (Or.inr (hw _ (List.mem_of_getElem? (i := 44) rfl))) (by decide) (t := .int) (t' := .int) (by decide) (by decide)))
  have Ea := Ea.wr W18
  have V_bi := V_bi.other W18 (Ne.symm ne_a_bi)
  have V_bt := V_bt.other W18 (Ne.symm ne_a_bt)
  have V_bk := V_bk.other W18 (Ne.symm ne_a_bk)
  have Z0''''''' := Nat.le_trans Z0'''''' (Keep.of_wr W18).1
  have Kp := Kp.wr W18 (Or.inl (List.mem_of_getElem? (i := 0) rfl))
  have N0'''' := Fr.snoc X18 N0''' ga
  have F_propertyCount := F_propertyCount.same W18
  refine own_st (T' := T18) (g' := (mkF m 32 #[.val (.ref a), .val (.int pc)] [])) st18 ?_
  refine own_st (T' := T18) (g' := (mkF m 33 #[.val (.ref a), .val (.int pc)] [(.ref a)])) (fun _ k => XS.aloadN X18.here hx rfl (hb hby d6_32) rfl rfl k) ?_
  refine own_st (T' := T18) (g' := (mkF m 34 #[.val (.ref a), .val (.int pc)] [(.ref a), (.ref a)])) (fun _ k => XS.aloadN X18.here hx rfl (hb hby d6_33) rfl rfl k) ?_
  obtain ⟨T19, X19, e19, st19⟩ := getF X18 hx hZ hown (host := "") (Or.inl (hw _ (List.mem_of_getElem? (i := 38) rfl))) Via.refl e18 F_times (g := (mkF m 34 #[.val (.ref a), .val (.int pc)] [(.ref a), (.ref a)])) rfl rfl (hb hby d6_34)
  refine own_st (T' := T19) (g' := (mkF m 37 #[.val (.ref a), .val (.int pc)] [(.ref bt), (.ref a)])) st19 ?_
  refine own_st (T' := T19) (g' := (mkF m 38 #[.val (.ref a), .val (.int pc)] [(.int (16 : Int32)), (.ref a)])) (own_len X19 hx hZ e19 V_bt (z := (16 : Int32)) rfl (g := (mkF m 37 #[.val (.ref a), .val (.int pc)] [(.ref bt), (.ref a)])) rfl rfl (hb hby d6_37)) ?_
  refine own_st (T' := T19) (g' := (mkF m 39 #[.val (.ref a), .val (.int pc)] [(.int pc), (.int (16 : Int32)), (.ref a)])) (fun _ k => XS.iloadN X19.here hx rfl (hb hby d6_38) rfl k) ?_
  refine own_st (T' := T19) (g' := (mkF m 40 #[.val (.ref a), .val (.int pc)] [(.int ((16 : Int32) * pc)), (.ref a)])) (fun _ k => XS.imul X19.here hx rfl (hb hby d6_39) rfl k) ?_
  obtain ⟨T20, h20, k20, X20, e20, E20, A20, O20, st20⟩ := newR X19 hx hZ hown (hw _ (List.mem_of_getElem? (i := 45) rfl)) (hw _ (List.mem_of_getElem? (i := 46) rfl)) e19 (g := (mkF m 40 #[.val (.ref a), .val (.int pc)] [(.int ((16 : Int32) * pc)), (.ref a)])) rfl (hb hby d6_40) rfl (own_lt0 (by omega)) (cap := 64) (by rw [own_idx hN]; exact hN64) (by decide) (by decide) (by decide)
  obtain ⟨t, gt⟩ : ∃ z, z = h18.size := ⟨_, rfl⟩
  rw [← gt] at A20 st20
  have ne_a_t : a ≠ t := own_ne F_id.lt gt
  have ne_bi_t : bi ≠ t := own_ne V_bi.lt gt
  have ne_bt_t : bt ≠ t := own_ne V_bt.lt gt
  have ne_bk_t : bk ≠ t := own_ne V_bk.lt gt
  have ge_t : n0 ≤ t := own_ge Z0''''''' gt
  have sz_t : h0.size ≤ t := own_ge Kp.1 gt
  have F_id := F_id.ext E20
  have F_times := F_times.ext E20
  have F_kinds := F_kinds.ext E20
  have F_propertyCount := F_propertyCount.ext E20
  have F_properties := F_properties.ext E20
  have F_size := F_size.ext E20
  have Ea := Ea.ext E20
  have V_bi := V_bi.ext E20
  have V_bt := V_bt.ext E20
  have V_bk := V_bk.ext E20
  have Z0'''''''' := Nat.le_trans Z0''''''' E20.1
  have Kp := Kp.ext E20
  have V_t := own_Av.new (n := N) A20 (own_idx hN)
  refine own_st (T' := T20) (g' := (mkF m 43 #[.val (.ref a), .val (.int pc)] [(.ref t), (.ref a)])) st20 ?_
  obtain ⟨T21, h21, X21, e21, W21, st21⟩ := putF X20 hx hZ hown (host := "") (Or.inl (hw _ (List.mem_of_getElem? (i := 47) rfl))) Via.refl e20 F_properties Ea (Or.inl (hw _ (List.mem_of_getElem? (i := 48) rfl))) (hw _ (List.mem_of_getElem? (i := 29) rfl)) (ty := (.array (.object "java/lang/String"))) (by decide) rfl rfl (g := (mkF m 43 #[.val (.ref a), .val (.int pc)] [(.ref t), (.ref a)])) rfl rfl (hb hby d6_43)
  have F_id := F_id.other W21 (Or.inr (slot_ne (Or.inl (hw _ (List.mem_of_getElem? (i := 36) rfl))) (Or.inl (hw _ (List.mem_of_getElem? (i := 48) rfl))) (by decide) (t := (.array .byte)) (t' := (.array (.object "java/lang/String"))) (by decide) (by decide)))
  have F_times := F_times.other W21 (Or.inr (slot_ne (Or.inl (hw _ (List.mem_of_getElem? (i := 39) rfl))) (Or.inl (hw _ (List.mem_of_getElem? (i := 48) rfl))) (by decide) (t := (.array .long)) (t' := (.array (.object "java/lang/String"))) (by decide) (by decide)))
  have F_kinds := F_kinds.other W21 (Or.inr (slot_ne (Or.inl (hw _ (List.mem_of_getElem? (i := 42) rfl))) (Or.inl (hw _ (List.mem_of_getElem? (i := 48) rfl))) (by decide) (t := (.array .int)) (t' := (.array (.object "java/lang/String"))) (by decide) (by decide)))
  have F_propertyCount := F_propertyCount.other W21 (Or.inr (slot_ne (Or.inr (hw _ (List.mem_of_getElem? (i := 44) rfl))) (Or.inl (hw _ (List.mem_of_getElem? (i := 48) rfl))) (by decide) (t := .int) (t' := (.array (.object "java/lang/String"))) (by decide) (by decide)))
  have F_size := F_size.other W21 (Or.inr (slot_ne (Or.inl (hw _ (List.mem_of_getElem? (i := 65) rfl))) (Or.inl (hw _ (List.mem_of_getElem? (i := 48) rfl))) (by decide) (t := .int) (t' := (.array (.object "java/lang/String"))) (by decide) (by decide)))
  have Ea := Ea.wr W21
  have V_bi := V_bi.other W21 (Ne.symm ne_a_bi)
  have V_bt := V_bt.other W21 (Ne.symm ne_a_bt)
  have V_bk := V_bk.other W21 (Ne.symm ne_a_bk)
  have V_t := V_t.other W21 (Ne.symm ne_a_t)
  have Z0''''''''' := Nat.le_trans Z0'''''''' (Keep.of_wr W21).1
  have Kp := Kp.wr W21 (Or.inl (List.mem_of_getElem? (i := 0) rfl))
  have N0''''' := Fr.snoc X21 N0'''' ga
  have F_properties := F_properties.same W21
  refine own_st (T' := T21) (g' := (mkF m 46 #[.val (.ref a), .val (.int pc)] [])) st21 ?_
  exact own_ret0 X21 hx Bd.returns Bd.notSynchronized e21 (hb hby d6_46) ⟨rfl, N0''''', Kp, Ea, F_propertyCount, F_size, t, _, F_properties, V_t, O20, sz_t⟩ (by decide) (by decide)
theorem d7_0 : decode prog_22_method_9_code 0 = .ok (.aload_n 0, 1) := by decide +kernel
theorem d7_1 : decode prog_22_method_9_code 1 = .ok (.getfield 27, 3) := by decide +kernel
theorem d7_4 : decode prog_22_method_9_code 4 = .ok (.iload_n 1, 1) := by decide +kernel
theorem d7_5 : decode prog_22_method_9_code 5 = .ok (.aload_n 0, 1) := by decide +kernel
theorem d7_6 : decode prog_22_method_9_code 6 = .ok (.getfield 21, 3) := by decide +kernel
theorem d7_9 : decode prog_22_method_9_code 9 = .ok (.imul, 1) := by decide +kernel
theorem d7_10 : decode prog_22_method_9_code 10 = .ok (.iload_n 2, 1) := by decide +kernel
theorem d7_11 : decode prog_22_method_9_code 11 = .ok (.iadd, 1) := by decide +kernel
theorem d7_12 : decode prog_22_method_9_code 12 = .ok (.aload_n 3, 1) := by decide +kernel
theorem d7_13 : decode prog_22_method_9_code 13 = .ok (.aastore, 1) := by decide +kernel
theorem d7_14 : decode prog_22_method_9_code 14 = .ok (.return_, 1) := by decide +kernel
def own_set_Q (Z : State) (a : Addr) (ev : Int32) (pr : Int32) (sa : Addr) (t : Addr) (pc : Int32) (k : ClassId) (N : Nat) (f : Nat → Value) (i : Nat) (h0 : Heap) (n0 : Nat) (v : Option Value) (h : Heap) (L : List Loc) : Prop := v = none ∧ Fr n0 L ∧ Keep h0 h [t] ∧ own_Av Z h t k (.object "java/lang/String") N (fun q => if q = i then (.ref sa) else f q)
set_option maxRecDepth 65536 in
set_option maxHeartbeats 40000000 in
theorem own_set (l : Launch) (Z : State) (a0 : Array Value) (hw : ∀ d ∈ tables_1, d.before a0 Z = true) (ws : List Jvm.Cond) (a : Addr) (ev : Int32) (pr : Int32) (sa : Addr) (t : Addr) (pc : Int32) (k : ClassId) (N : Nat) (f : Nat → Value) (i : Nat) (h0 : Heap) (n0 : Nat) (Z0 : n0 ≤ h0.size) (Fp : Fld Z h0 a "com/example/funnelwright/funnelwright/UserEvents" "properties" "[Ljava/lang/String;" (.ref t)) (Fc : Fld Z h0 a "com/example/funnelwright/funnelwright/UserEvents" "propertyCount" "I" (.int pc)) (V_t : own_Av Z h0 t k (.object "java/lang/String") N f) (Ov : Ovr Z k "java/lang/String") (Es : Exa Z h0 sa "java/lang/String") (nat : a ≠ t) (gt : n0 ≤ t) (hj : ((ev * pc) + pr).toInt = i) (hi : i < N) :
    MetFree l (⟨"com/example/funnelwright/funnelwright/UserEvents", "setProperty", "(IILjava/lang/String;)V"⟩ : MethodName) (head1 (Jvm.Cond.code (⟨"com/example/funnelwright/funnelwright/UserEvents", "setProperty", "(IILjava/lang/String;)V"⟩ : MethodName) prog_22_method_9_code 4 none :: ws) ({ frames := 0, cells := 0, slots := 0, locals := 0 } : Room)) (fun aa U0 => aa = #[(.ref a), (.int ev), (.int pr), (.ref sa)] ∧ Z.Warmed39 U0.vm ∧ U0.heap = h0) (fun _ _ _ _ _ => True) (fun _ U0 o0 U1 => ∃ v0 L0, o0 = .returned v0 ∧ own_set_Q Z a ev pr sa t pc k N f i h0 n0 v0 U1.heap L0 ∧ FrameEnd U0 o0 U1 L0 ({ frames := 0, cells := 0, slots := 0, locals := 0 } : Room).cells ({ frames := 0, cells := 0, slots := 0, locals := 0 } : Room).slots) := by
  refine MetFree.of_bodySF (plainFor_of_name own_pn2) hisR ?_
  intro p e s m args below meth c s₁ Bd hml0 hP hK
  obtain ⟨rfl, hZ, hh⟩ := hP
  have hx := Bd.exec
  have hby := Bd.bytes
  have hml : c.maxLocals = 4 := hml0
  have hown : s.vm.findClass "com/example/funnelwright/funnelwright/UserEvents" = some m.cls := findClass_of_methodNamed Bd.named
  have hnm := (name_of_methodNamed Bd.named Bd.method).1
  have X0 : Stand p l e ({ frames := 0, cells := 0, slots := 0, locals := 0 } : Room) s m #[(.ref a), (.int ev), (.int pr), (.ref sa)] below meth c s₁ [] 0 0 := Stand.of_body Bd
  have e0 : s₁.heap = h0 := by rw [← hh, Bd.state]; rfl
  have N0 := Fr.nil n0
  show own_Go p e below s (own_set_Q Z a ev pr sa t pc k N f i h0 n0) 0 0 s₁ (entryFrame m #[(.ref a), (.int ev), (.int pr), (.ref sa)] 4)
  rw [show entryFrame m #[(.ref a), (.int ev), (.int pr), (.ref sa)] 4 = mkF m 0 #[.val (.ref a), .val (.int ev), .val (.int pr), .val (.ref sa)] [] from by first | (simp [entryFrame, mkF, argsToLocals, Value.category]; done) | rfl]
  have Kp := Keep.refl h0 [t]
  refine own_st (T' := s₁) (g' := (mkF m 1 #[.val (.ref a), .val (.int ev), .val (.int pr), .val (.ref sa)] [(.ref a)])) (fun _ k => XS.aloadN X0.here hx rfl (hb hby d7_0) rfl rfl k) ?_
  obtain ⟨T22, X22, e22, st22⟩ := getF X0 hx hZ hown (host := "") (Or.inl (hw _ (List.mem_of_getElem? (i := 47) rfl))) Via.refl e0 Fp (g := (mkF m 1 #[.val (.ref a), .val (.int ev), .val (.int pr), .val (.ref sa)] [(.ref a)])) rfl rfl (hb hby d7_1)
  refine own_st (T' := T22) (g' := (mkF m 4 #[.val (.ref a), .val (.int ev), .val (.int pr), .val (.ref sa)] [(.ref t)])) st22 ?_
  refine own_st (T' := T22) (g' := (mkF m 5 #[.val (.ref a), .val (.int ev), .val (.int pr), .val (.ref sa)] [(.int ev), (.ref t)])) (fun _ k => XS.iloadN X22.here hx rfl (hb hby d7_4) rfl k) ?_
  refine own_st (T' := T22) (g' := (mkF m 6 #[.val (.ref a), .val (.int ev), .val (.int pr), .val (.ref sa)] [(.ref a), (.int ev), (.ref t)])) (fun _ k => XS.aloadN X22.here hx rfl (hb hby d7_5) rfl rfl k) ?_
  obtain ⟨T23, X23, e23, st23⟩ := getF X22 hx hZ hown (host := "") (Or.inl (hw _ (List.mem_of_getElem? (i := 43) rfl))) Via.refl e22 Fc (g := (mkF m 6 #[.val (.ref a), .val (.int ev), .val (.int pr), .val (.ref sa)] [(.ref a), (.int ev), (.ref t)])) rfl rfl (hb hby d7_6)
  refine own_st (T' := T23) (g' := (mkF m 9 #[.val (.ref a), .val (.int ev), .val (.int pr), .val (.ref sa)] [(.int pc), (.int ev), (.ref t)])) st23 ?_
  refine own_st (T' := T23) (g' := (mkF m 10 #[.val (.ref a), .val (.int ev), .val (.int pr), .val (.ref sa)] [(.int (ev * pc)), (.ref t)])) (fun _ k => XS.imul X23.here hx rfl (hb hby d7_9) rfl k) ?_
  refine own_st (T' := T23) (g' := (mkF m 11 #[.val (.ref a), .val (.int ev), .val (.int pr), .val (.ref sa)] [(.int pr), (.int (ev * pc)), (.ref t)])) (fun _ k => XS.iloadN X23.here hx rfl (hb hby d7_10) rfl k) ?_
  refine own_st (T' := T23) (g' := (mkF m 12 #[.val (.ref a), .val (.int ev), .val (.int pr), .val (.ref sa)] [(.int ((ev * pc) + pr)), (.ref t)])) (fun _ k => XS.iadd X23.here hx rfl (hb hby d7_11) rfl k) ?_
  refine own_st (T' := T23) (g' := (mkF m 13 #[.val (.ref a), .val (.int ev), .val (.int pr), .val (.ref sa)] [(.ref sa), (.int ((ev * pc) + pr)), (.ref t)])) (fun _ k => XS.aloadN X23.here hx rfl (hb hby d7_12) rfl rfl k) ?_
  obtain ⟨T24, h24, X24, e24, W24, V24, st24⟩ := own_stR X23 hx hZ e23 V_t Ov (Or.inr ⟨_, rfl, Ins.self Es⟩) (i := i) hj hi (g := (mkF m 13 #[.val (.ref a), .val (.int ev), .val (.int pr), .val (.ref sa)] [(.ref sa), (.int ((ev * pc) + pr)), (.ref t)])) rfl rfl (hb hby d7_13)
  have Fp := Fp.other W24 (Or.inl nat)
  have Fc := Fc.other W24 (Or.inl nat)
  have Es := Es.wr W24
  have Z0' := Nat.le_trans Z0 (Keep.of_wr W24).1
  have Kp := Kp.wr W24 (Or.inl (List.mem_of_getElem? (i := 0) rfl))
  have N0' := Fr.snoc X24 N0 gt
  have V_t := V24
  refine own_st (T' := T24) (g' := (mkF m 14 #[.val (.ref a), .val (.int ev), .val (.int pr), .val (.ref sa)] [])) st24 ?_
  exact own_ret0 X24 hx Bd.returns Bd.notSynchronized e24 (hb hby d7_14) ⟨rfl, N0', Kp, V_t⟩ (by decide) (by decide)
theorem d8_0 : decode prog_22_method_6_code 0 = .ok (.aload_n 0, 1) := by decide +kernel
theorem d8_1 : decode prog_22_method_6_code 1 = .ok (.getfield 27, 3) := by decide +kernel
theorem d8_4 : decode prog_22_method_6_code 4 = .ok (.iload_n 1, 1) := by decide +kernel
theorem d8_5 : decode prog_22_method_6_code 5 = .ok (.aload_n 0, 1) := by decide +kernel
theorem d8_6 : decode prog_22_method_6_code 6 = .ok (.getfield 21, 3) := by decide +kernel
theorem d8_9 : decode prog_22_method_6_code 9 = .ok (.imul, 1) := by decide +kernel
theorem d8_10 : decode prog_22_method_6_code 10 = .ok (.iload_n 2, 1) := by decide +kernel
theorem d8_11 : decode prog_22_method_6_code 11 = .ok (.iadd, 1) := by decide +kernel
theorem d8_12 : decode prog_22_method_6_code 12 = .ok (.aaload, 1) := by decide +kernel
theorem d8_13 : decode prog_22_method_6_code 13 = .ok (.areturn, 1) := by decide +kernel
def own_prop_Q (Z : State) (a : Addr) (ev : Int32) (pr : Int32) (t : Addr) (pc : Int32) (k : ClassId) (N : Nat) (f : Nat → Value) (i : Nat) (r : Value) (h0 : Heap) (n0 : Nat) (v : Option Value) (h : Heap) (L : List Loc) : Prop := v = some r ∧ Fr n0 L ∧ h = h0
set_option maxRecDepth 65536 in
set_option maxHeartbeats 40000000 in
theorem own_prop (l : Launch) (Z : State) (a0 : Array Value) (hw : ∀ d ∈ tables_1, d.before a0 Z = true) (ws : List Jvm.Cond) (a : Addr) (ev : Int32) (pr : Int32) (t : Addr) (pc : Int32) (k : ClassId) (N : Nat) (f : Nat → Value) (i : Nat) (r : Value) (h0 : Heap) (n0 : Nat) (Z0 : n0 ≤ h0.size) (Fp : Fld Z h0 a "com/example/funnelwright/funnelwright/UserEvents" "properties" "[Ljava/lang/String;" (.ref t)) (Fc : Fld Z h0 a "com/example/funnelwright/funnelwright/UserEvents" "propertyCount" "I" (.int pc)) (V_t : own_Av Z h0 t k (.object "java/lang/String") N f) (hj : ((ev * pc) + pr).toInt = i) (hi : i < N) (hv : f i = r) (hr : r.isRef = true) :
    MetFree l (⟨"com/example/funnelwright/funnelwright/UserEvents", "property", "(II)Ljava/lang/String;"⟩ : MethodName) (head1 (Jvm.Cond.code (⟨"com/example/funnelwright/funnelwright/UserEvents", "property", "(II)Ljava/lang/String;"⟩ : MethodName) prog_22_method_6_code 3 (some (.object "java/lang/String")) :: ws) ({ frames := 0, cells := 0, slots := 0, locals := 0 } : Room)) (fun aa U0 => aa = #[(.ref a), (.int ev), (.int pr)] ∧ Z.Warmed39 U0.vm ∧ U0.heap = h0) (fun _ _ _ _ _ => True) (fun _ U0 o0 U1 => ∃ v0 L0, o0 = .returned v0 ∧ own_prop_Q Z a ev pr t pc k N f i r h0 n0 v0 U1.heap L0 ∧ FrameEnd U0 o0 U1 L0 ({ frames := 0, cells := 0, slots := 0, locals := 0 } : Room).cells ({ frames := 0, cells := 0, slots := 0, locals := 0 } : Room).slots) := by
  refine MetFree.of_bodySF (plainFor_of_name own_pn2) hisR ?_
  intro p e s m args below meth c s₁ Bd hml0 hP hK
  obtain ⟨rfl, hZ, hh⟩ := hP
  have hx := Bd.exec
  have hby := Bd.bytes
  have hml : c.maxLocals = 3 := hml0
  have hown : s.vm.findClass "com/example/funnelwright/funnelwright/UserEvents" = some m.cls := findClass_of_methodNamed Bd.named
  have hnm := (name_of_methodNamed Bd.named Bd.method).1
  have X0 : Stand p l e ({ frames := 0, cells := 0, slots := 0, locals := 0 } : Room) s m #[(.ref a), (.int ev), (.int pr)] below meth c s₁ [] 0 0 := Stand.of_body Bd
  have e0 : s₁.heap = h0 := by rw [← hh, Bd.state]; rfl
  have N0 := Fr.nil n0
  show own_Go p e below s (own_prop_Q Z a ev pr t pc k N f i r h0 n0) 0 0 s₁ (entryFrame m #[(.ref a), (.int ev), (.int pr)] 3)
  rw [show entryFrame m #[(.ref a), (.int ev), (.int pr)] 3 = mkF m 0 #[.val (.ref a), .val (.int ev), .val (.int pr)] [] from by first | (simp [entryFrame, mkF, argsToLocals, Value.category]; done) | rfl]
  refine own_st (T' := s₁) (g' := (mkF m 1 #[.val (.ref a), .val (.int ev), .val (.int pr)] [(.ref a)])) (fun _ k => XS.aloadN X0.here hx rfl (hb hby d8_0) rfl rfl k) ?_
  obtain ⟨T25, X25, e25, st25⟩ := getF X0 hx hZ hown (host := "") (Or.inl (hw _ (List.mem_of_getElem? (i := 47) rfl))) Via.refl e0 Fp (g := (mkF m 1 #[.val (.ref a), .val (.int ev), .val (.int pr)] [(.ref a)])) rfl rfl (hb hby d8_1)
  refine own_st (T' := T25) (g' := (mkF m 4 #[.val (.ref a), .val (.int ev), .val (.int pr)] [(.ref t)])) st25 ?_
  refine own_st (T' := T25) (g' := (mkF m 5 #[.val (.ref a), .val (.int ev), .val (.int pr)] [(.int ev), (.ref t)])) (fun _ k => XS.iloadN X25.here hx rfl (hb hby d8_4) rfl k) ?_
  refine own_st (T' := T25) (g' := (mkF m 6 #[.val (.ref a), .val (.int ev), .val (.int pr)] [(.ref a), (.int ev), (.ref t)])) (fun _ k => XS.aloadN X25.here hx rfl (hb hby d8_5) rfl rfl k) ?_
  obtain ⟨T26, X26, e26, st26⟩ := getF X25 hx hZ hown (host := "") (Or.inl (hw _ (List.mem_of_getElem? (i := 43) rfl))) Via.refl e25 Fc (g := (mkF m 6 #[.val (.ref a), .val (.int ev), .val (.int pr)] [(.ref a), (.int ev), (.ref t)])) rfl rfl (hb hby d8_6)
  refine own_st (T' := T26) (g' := (mkF m 9 #[.val (.ref a), .val (.int ev), .val (.int pr)] [(.int pc), (.int ev), (.ref t)])) st26 ?_
  refine own_st (T' := T26) (g' := (mkF m 10 #[.val (.ref a), .val (.int ev), .val (.int pr)] [(.int (ev * pc)), (.ref t)])) (fun _ k => XS.imul X26.here hx rfl (hb hby d8_9) rfl k) ?_
  refine own_st (T' := T26) (g' := (mkF m 11 #[.val (.ref a), .val (.int ev), .val (.int pr)] [(.int pr), (.int (ev * pc)), (.ref t)])) (fun _ k => XS.iloadN X26.here hx rfl (hb hby d8_10) rfl k) ?_
  refine own_st (T' := T26) (g' := (mkF m 12 #[.val (.ref a), .val (.int ev), .val (.int pr)] [(.int ((ev * pc) + pr)), (.ref t)])) (fun _ k => XS.iadd X26.here hx rfl (hb hby d8_11) rfl k) ?_
  refine own_st (T' := T26) (g' := (mkF m 13 #[.val (.ref a), .val (.int ev), .val (.int pr)] [r])) (own_ldR X26 hx hZ e26 V_t rfl (i := i) hj hi (v := r) hv (g := (mkF m 12 #[.val (.ref a), .val (.int ev), .val (.int pr)] [(.int ((ev * pc) + pr)), (.ref t)])) rfl rfl (hb hby d8_12)) ?_
  exact own_retR X26 hx Bd.returns Bd.notSynchronized e26 rfl hr (hb hby d8_13) ⟨rfl, N0, rfl⟩ (by decide) (by decide)
theorem d9_0 : decode prog_22_method_3_code 0 = .ok (.aload_n 0, 1) := by decide +kernel
theorem d9_1 : decode prog_22_method_3_code 1 = .ok (.getfield 47, 3) := by decide +kernel
theorem d9_4 : decode prog_22_method_3_code 4 = .ok (.ireturn, 1) := by decide +kernel
def own_size_Q (Z : State) (a : Addr) (z : Int32) (h0 : Heap) (n0 : Nat) (v : Option Value) (h : Heap) (L : List Loc) : Prop := v = some (.int z) ∧ Fr n0 L ∧ h = h0
set_option maxRecDepth 65536 in
set_option maxHeartbeats 40000000 in
theorem own_size (l : Launch) (Z : State) (a0 : Array Value) (hw : ∀ d ∈ tables_1, d.before a0 Z = true) (ws : List Jvm.Cond) (a : Addr) (z : Int32) (h0 : Heap) (n0 : Nat) (Z0 : n0 ≤ h0.size) (F : Fld Z h0 a "com/example/funnelwright/funnelwright/UserEvents" "size" "I" (.int z)) :
    MetFree l (⟨"com/example/funnelwright/funnelwright/UserEvents", "size", "()I"⟩ : MethodName) (head1 (Jvm.Cond.code (⟨"com/example/funnelwright/funnelwright/UserEvents", "size", "()I"⟩ : MethodName) prog_22_method_3_code 1 (some .int) :: ws) ({ frames := 0, cells := 0, slots := 0, locals := 0 } : Room)) (fun aa U0 => aa = #[(.ref a)] ∧ Z.Warmed39 U0.vm ∧ U0.heap = h0) (fun _ _ _ _ _ => True) (fun _ U0 o0 U1 => ∃ v0 L0, o0 = .returned v0 ∧ own_size_Q Z a z h0 n0 v0 U1.heap L0 ∧ FrameEnd U0 o0 U1 L0 ({ frames := 0, cells := 0, slots := 0, locals := 0 } : Room).cells ({ frames := 0, cells := 0, slots := 0, locals := 0 } : Room).slots) := by
  refine MetFree.of_bodySF (plainFor_of_name own_pn2) hisR ?_
  intro p e s m args below meth c s₁ Bd hml0 hP hK
  obtain ⟨rfl, hZ, hh⟩ := hP
  have hx := Bd.exec
  have hby := Bd.bytes
  have hml : c.maxLocals = 1 := hml0
  have hown : s.vm.findClass "com/example/funnelwright/funnelwright/UserEvents" = some m.cls := findClass_of_methodNamed Bd.named
  have hnm := (name_of_methodNamed Bd.named Bd.method).1
  have X0 : Stand p l e ({ frames := 0, cells := 0, slots := 0, locals := 0 } : Room) s m #[(.ref a)] below meth c s₁ [] 0 0 := Stand.of_body Bd
  have e0 : s₁.heap = h0 := by rw [← hh, Bd.state]; rfl
  have N0 := Fr.nil n0
  show own_Go p e below s (own_size_Q Z a z h0 n0) 0 0 s₁ (entryFrame m #[(.ref a)] 1)
  rw [show entryFrame m #[(.ref a)] 1 = mkF m 0 #[.val (.ref a)] [] from by first | (simp [entryFrame, mkF, argsToLocals, Value.category]; done) | rfl]
  refine own_st (T' := s₁) (g' := (mkF m 1 #[.val (.ref a)] [(.ref a)])) (fun _ k => XS.aloadN X0.here hx rfl (hb hby d9_0) rfl rfl k) ?_
  obtain ⟨T27, X27, e27, st27⟩ := getF X0 hx hZ hown (host := "") (Or.inl (hw _ (List.mem_of_getElem? (i := 64) rfl))) Via.refl e0 F (g := (mkF m 1 #[.val (.ref a)] [(.ref a)])) rfl rfl (hb hby d9_1)
  refine own_st (T' := T27) (g' := (mkF m 4 #[.val (.ref a)] [(.int z)])) st27 ?_
  exact own_retI X27 hx Bd.returns Bd.notSynchronized e27 (hb hby d9_4) ⟨rfl, N0, rfl⟩ (by decide) (by decide)
theorem own_pd3 : parseMethodDescriptor "(C)Ljava/lang/String;" = some ⟨[.char], some (.object "java/lang/String")⟩ := by decide +kernel
theorem own_pd4 : parseMethodDescriptor "(I)V" = some ⟨[.int], none⟩ := by decide +kernel
theorem own_pd5 : parseMethodDescriptor "(IILjava/lang/String;)V" = some ⟨[.int, .int, (.object "java/lang/String")], none⟩ := by decide +kernel
theorem own_pd6 : parseMethodDescriptor "(II)Ljava/lang/String;" = some ⟨[.int, .int], some (.object "java/lang/String")⟩ := by decide +kernel
theorem own_pd7 : parseMethodDescriptor "()I" = some ⟨[], some .int⟩ := by decide +kernel
theorem own_pn3 : plainName "com/example/funnelwright/funnelwright/UserEventsSetPropertyPinLaw" = true := by first | (simp [plainName, overriddenIn]; done) | decide +kernel
def own_law_Q (Z : State) (p0 : Int32) (p1 : Int32) (p2 : Int32) (p3 : Int32) (p4 : Int32) (p5 : Int32) (cs : Int32) (h0 : Heap) (n0 : Nat) (v : Option Value) (h : Heap) (L : List Loc) : Prop := v = some (.int 1) ∧ Fr n0 L
set_option maxRecDepth 65536 in
set_option maxHeartbeats 40000000 in
theorem own_law (l : Launch) (Z : State) (a0 : Array Value) (hw : ∀ d ∈ tables_1, d.before a0 Z = true) (ws : List Jvm.Cond) (p0 : Int32) (p1 : Int32) (p2 : Int32) (p3 : Int32) (p4 : Int32) (p5 : Int32) (cs : Int32) (h0 : Heap) (n0 : Nat) (Z0 : n0 ≤ h0.size) (O : Old Z n0 h0) (SC0 : Sta Z Z.heap "java/lang/String" "COMPACT_STRINGS" "Z" (.int cs)) (hcs : ¬ cs = (0 : Int32)) :
    MetFree l x (head1 (Jvm.Cond.code x code maxLocals ret :: ws) room_1) (fun aa U0 => aa = #[(.int p0), (.int p1), (.int p2), (.int p3), (.int p4), (.int p5)] ∧ Z.Warmed39 U0.vm ∧ U0.heap = h0) (fun _ _ _ _ _ => True) (fun _ U0 o0 U1 => ∃ v0 L0, o0 = .returned v0 ∧ own_law_Q Z p0 p1 p2 p3 p4 p5 cs h0 n0 v0 U1.heap L0 ∧ FrameEnd U0 o0 U1 L0 32 320) := by
  refine MetFree.of_bodySF (plainFor_of_name own_pn3) hisR ?_
  intro p e s m args below meth c s₁ Bd hml0 hP hK
  obtain ⟨rfl, hZ, hh⟩ := hP
  have hx := Bd.exec
  have hby := Bd.bytes
  have hml : c.maxLocals = 21 := hml0
  have hown : s.vm.findClass "com/example/funnelwright/funnelwright/UserEventsSetPropertyPinLaw" = some m.cls := findClass_of_methodNamed Bd.named
  have hnm := (name_of_methodNamed Bd.named Bd.method).1
  have X0 : Stand p l e room_1 s m #[(.int p0), (.int p1), (.int p2), (.int p3), (.int p4), (.int p5)] below meth c s₁ [] 0 0 := Stand.of_body Bd
  have e0 : s₁.heap = h0 := by rw [← hh, Bd.state]; rfl
  have N0 := Fr.nil n0
  show own_Go p e below s (own_law_Q Z p0 p1 p2 p3 p4 p5 cs h0 n0) 32 320 s₁ (entryFrame m #[(.int p0), (.int p1), (.int p2), (.int p3), (.int p4), (.int p5)] maxLocals)
  rw [show entryFrame m #[(.int p0), (.int p1), (.int p2), (.int p3), (.int p4), (.int p5)] maxLocals = mkF m 0 #[.val (.int p0), .val (.int p1), .val (.int p2), .val (.int p3), .val (.int p4), .val (.int p5), .unset, .unset, .unset, .unset, .unset, .unset, .unset, .unset, .unset, .unset, .unset, .unset, .unset, .unset, .unset] [] from by first | (simp [entryFrame, mkF, argsToLocals, Value.category, maxLocals]; done) | rfl]
  refine own_st (T' := s₁) (g' := (mkF m 1 #[.val (.int p0), .val (.int p1), .val (.int p2), .val (.int p3), .val (.int p4), .val (.int p5), .unset, .unset, .unset, .unset, .unset, .unset, .unset, .unset, .unset, .unset, .unset, .unset, .unset, .unset, .unset] [(.int (1 : Int32))])) (fun _ k => XS.iconst X0.here hx rfl (hb hby at_0) k) ?_
  refine own_st (T' := s₁) (g' := (mkF m 2 #[.val (.int p0), .val (.int p1), .val (.int p2), .val (.int p3), .val (.int p4), .val (.int p5), .unset, .unset, .unset, .unset, .unset, .unset, .unset, .unset, .unset, .unset, .unset, .unset, .unset, .unset, .unset] [(.int p0), (.int (1 : Int32))])) (fun _ k => XS.iloadN X0.here hx rfl (hb hby at_1) rfl k) ?_
  refine own_st (T' := s₁) (g' := (mkF m 3 #[.val (.int p0), .val (.int p1), .val (.int p2), .val (.int p3), .val (.int p4), .val (.int p5), .unset, .unset, .unset, .unset, .unset, .unset, .unset, .unset, .unset, .unset, .unset, .unset, .unset, .unset, .unset] [(.int (3 : Int32)), (.int p0), (.int (1 : Int32))])) (fun _ k => XS.iconst X0.here hx rfl (hb hby at_2) k) ?_
  refine own_st (T' := s₁) (g' := (mkF m 4 #[.val (.int p0), .val (.int p1), .val (.int p2), .val (.int p3), .val (.int p4), .val (.int p5), .unset, .unset, .unset, .unset, .unset, .unset, .unset, .unset, .unset, .unset, .unset, .unset, .unset, .unset, .unset] [(.int (p0 &&& (3 : Int32))), (.int (1 : Int32))])) (fun _ k => XS.iand X0.here hx rfl (hb hby at_3) rfl k) ?_
  refine own_st (T' := s₁) (g' := (mkF m 5 #[.val (.int p0), .val (.int p1), .val (.int p2), .val (.int p3), .val (.int p4), .val (.int p5), .unset, .unset, .unset, .unset, .unset, .unset, .unset, .unset, .unset, .unset, .unset, .unset, .unset, .unset, .unset] [(.int ((1 : Int32) + (p0 &&& (3 : Int32))))])) (fun _ k => XS.iadd X0.here hx rfl (hb hby at_4) rfl k) ?_
  refine own_st (T' := s₁) (g' := (mkF m 7 #[.val (.int p0), .val (.int p1), .val (.int p2), .val (.int p3), .val (.int p4), .val (.int p5), .val (.int ((1 : Int32) + (p0 &&& (3 : Int32)))), .unset, .unset, .unset, .unset, .unset, .unset, .unset, .unset, .unset, .unset, .unset, .unset, .unset, .unset] [])) (fun _ k => XS.istore X0.here hx rfl (hb hby at_5) rfl (l' := #[.val (.int p0), .val (.int p1), .val (.int p2), .val (.int p3), .val (.int p4), .val (.int p5), .val (.int ((1 : Int32) + (p0 &&& (3 : Int32)))), .unset, .unset, .unset, .unset, .unset, .unset, .unset, .unset, .unset, .unset, .unset, .unset, .unset, .unset]) rfl k) ?_
  have J7 : ∀ (pc : Int32) (hpc : 1 ≤ pc.toInt ∧ pc.toInt ≤ 4), own_Go p e below s (own_law_Q Z p0 p1 p2 p3 p4 p5 cs h0 n0) 32 320 s₁ (mkF m 7 #[.val (.int p0), .val (.int p1), .val (.int p2), .val (.int p3), .val (.int p4), .val (.int p5), .val (.int pc), .unset, .unset, .unset, .unset, .unset, .unset, .unset, .unset, .unset, .unset, .unset, .unset, .unset, .unset] []) := by
    intro pc hpc
    have hpz : ¬ pc = (0 : Int32) := fun q => by rw [q] at hpc; have : (0 : Int32).toInt = 0 := rfl; omega
    refine own_st (T' := s₁) (g' := (mkF m 8 #[.val (.int p0), .val (.int p1), .val (.int p2), .val (.int p3), .val (.int p4), .val (.int p5), .val (.int pc), .unset, .unset, .unset, .unset, .unset, .unset, .unset, .unset, .unset, .unset, .unset, .unset, .unset, .unset] [(.int p1)])) (fun _ k => XS.iloadN X0.here hx rfl (hb hby at_7) rfl k) ?_
    refine own_st (T' := s₁) (g' := (mkF m 10 #[.val (.int p0), .val (.int p1), .val (.int p2), .val (.int p3), .val (.int p4), .val (.int p5), .val (.int pc), .unset, .unset, .unset, .unset, .unset, .unset, .unset, .unset, .unset, .unset, .unset, .unset, .unset, .unset] [(.int (15 : Int32)), (.int p1)])) (fun _ k => XS.bipush X0.here hx rfl (hb hby at_8) k) ?_
    refine own_st (T' := s₁) (g' := (mkF m 11 #[.val (.int p0), .val (.int p1), .val (.int p2), .val (.int p3), .val (.int p4), .val (.int p5), .val (.int pc), .unset, .unset, .unset, .unset, .unset, .unset, .unset, .unset, .unset, .unset, .unset, .unset, .unset, .unset] [(.int (p1 &&& (15 : Int32)))])) (fun _ k => XS.iand X0.here hx rfl (hb hby at_10) rfl k) ?_
    refine own_st (T' := s₁) (g' := (mkF m 13 #[.val (.int p0), .val (.int p1), .val (.int p2), .val (.int p3), .val (.int p4), .val (.int p5), .val (.int pc), .val (.int (p1 &&& (15 : Int32))), .unset, .unset, .unset, .unset, .unset, .unset, .unset, .unset, .unset, .unset, .unset, .unset, .unset] [])) (fun _ k => XS.istore X0.here hx rfl (hb hby at_11) rfl (l' := #[.val (.int p0), .val (.int p1), .val (.int p2), .val (.int p3), .val (.int p4), .val (.int p5), .val (.int pc), .val (.int (p1 &&& (15 : Int32))), .unset, .unset, .unset, .unset, .unset, .unset, .unset, .unset, .unset, .unset, .unset, .unset, .unset]) rfl k) ?_
    refine own_st (T' := s₁) (g' := (mkF m 14 #[.val (.int p0), .val (.int p1), .val (.int p2), .val (.int p3), .val (.int p4), .val (.int p5), .val (.int pc), .val (.int (p1 &&& (15 : Int32))), .unset, .unset, .unset, .unset, .unset, .unset, .unset, .unset, .unset, .unset, .unset, .unset, .unset] [(.int p2)])) (fun _ k => XS.iloadN X0.here hx rfl (hb hby at_13) rfl k) ?_
    refine own_st (T' := s₁) (g' := (mkF m 16 #[.val (.int p0), .val (.int p1), .val (.int p2), .val (.int p3), .val (.int p4), .val (.int p5), .val (.int pc), .val (.int (p1 &&& (15 : Int32))), .unset, .unset, .unset, .unset, .unset, .unset, .unset, .unset, .unset, .unset, .unset, .unset, .unset] [(.int (2147483647 : Int32)), (.int p2)])) (X0.ldcInt hx hown (mvT hZ (hw _ (List.mem_of_getElem? (i := 0) rfl))) (g := (mkF m 14 #[.val (.int p0), .val (.int p1), .val (.int p2), .val (.int p3), .val (.int p4), .val (.int p5), .val (.int pc), .val (.int (p1 &&& (15 : Int32))), .unset, .unset, .unset, .unset, .unset, .unset, .unset, .unset, .unset, .unset, .unset, .unset, .unset] [(.int p2)])) rfl (hb hby at_14)) ?_
    refine own_st (T' := s₁) (g' := (mkF m 17 #[.val (.int p0), .val (.int p1), .val (.int p2), .val (.int p3), .val (.int p4), .val (.int p5), .val (.int pc), .val (.int (p1 &&& (15 : Int32))), .unset, .unset, .unset, .unset, .unset, .unset, .unset, .unset, .unset, .unset, .unset, .unset, .unset] [(.int (p2 &&& (2147483647 : Int32)))])) (fun _ k => XS.iand X0.here hx rfl (hb hby at_16) rfl k) ?_
    refine own_st (T' := s₁) (g' := (mkF m 19 #[.val (.int p0), .val (.int p1), .val (.int p2), .val (.int p3), .val (.int p4), .val (.int p5), .val (.int pc), .val (.int (p1 &&& (15 : Int32))), .unset, .unset, .unset, .unset, .unset, .unset, .unset, .unset, .unset, .unset, .unset, .unset, .unset] [(.int pc), (.int (p2 &&& (2147483647 : Int32)))])) (fun _ k => XS.iload X0.here hx rfl (hb hby at_17) rfl k) ?_
    refine own_st (T' := s₁) (g' := (mkF m 20 #[.val (.int p0), .val (.int p1), .val (.int p2), .val (.int p3), .val (.int p4), .val (.int p5), .val (.int pc), .val (.int (p1 &&& (15 : Int32))), .unset, .unset, .unset, .unset, .unset, .unset, .unset, .unset, .unset, .unset, .unset, .unset, .unset] [(.int ((p2 &&& (2147483647 : Int32)) % pc))])) (fun _ k => iremM X0 hx rfl (hb hby at_19) rfl hpz k) ?_
    refine own_st (T' := s₁) (g' := (mkF m 22 #[.val (.int p0), .val (.int p1), .val (.int p2), .val (.int p3), .val (.int p4), .val (.int p5), .val (.int pc), .val (.int (p1 &&& (15 : Int32))), .val (.int ((p2 &&& (2147483647 : Int32)) % pc)), .unset, .unset, .unset, .unset, .unset, .unset, .unset, .unset, .unset, .unset, .unset, .unset] [])) (fun _ k => XS.istore X0.here hx rfl (hb hby at_20) rfl (l' := #[.val (.int p0), .val (.int p1), .val (.int p2), .val (.int p3), .val (.int p4), .val (.int p5), .val (.int pc), .val (.int (p1 &&& (15 : Int32))), .val (.int ((p2 &&& (2147483647 : Int32)) % pc)), .unset, .unset, .unset, .unset, .unset, .unset, .unset, .unset, .unset, .unset, .unset, .unset]) rfl k) ?_
    refine own_st (T' := s₁) (g' := (mkF m 23 #[.val (.int p0), .val (.int p1), .val (.int p2), .val (.int p3), .val (.int p4), .val (.int p5), .val (.int pc), .val (.int (p1 &&& (15 : Int32))), .val (.int ((p2 &&& (2147483647 : Int32)) % pc)), .unset, .unset, .unset, .unset, .unset, .unset, .unset, .unset, .unset, .unset, .unset, .unset] [(.int p3)])) (fun _ k => XS.iloadN X0.here hx rfl (hb hby at_22) rfl k) ?_
    refine own_st (T' := s₁) (g' := (mkF m 25 #[.val (.int p0), .val (.int p1), .val (.int p2), .val (.int p3), .val (.int p4), .val (.int p5), .val (.int pc), .val (.int (p1 &&& (15 : Int32))), .val (.int ((p2 &&& (2147483647 : Int32)) % pc)), .unset, .unset, .unset, .unset, .unset, .unset, .unset, .unset, .unset, .unset, .unset, .unset] [(.int (15 : Int32)), (.int p3)])) (fun _ k => XS.bipush X0.here hx rfl (hb hby at_23) k) ?_
    refine own_st (T' := s₁) (g' := (mkF m 26 #[.val (.int p0), .val (.int p1), .val (.int p2), .val (.int p3), .val (.int p4), .val (.int p5), .val (.int pc), .val (.int (p1 &&& (15 : Int32))), .val (.int ((p2 &&& (2147483647 : Int32)) % pc)), .unset, .unset, .unset, .unset, .unset, .unset, .unset, .unset, .unset, .unset, .unset, .unset] [(.int (p3 &&& (15 : Int32)))])) (fun _ k => XS.iand X0.here hx rfl (hb hby at_25) rfl k) ?_
    refine own_st (T' := s₁) (g' := (mkF m 28 #[.val (.int p0), .val (.int p1), .val (.int p2), .val (.int p3), .val (.int p4), .val (.int p5), .val (.int pc), .val (.int (p1 &&& (15 : Int32))), .val (.int ((p2 &&& (2147483647 : Int32)) % pc)), .val (.int (p3 &&& (15 : Int32))), .unset, .unset, .unset, .unset, .unset, .unset, .unset, .unset, .unset, .unset, .unset] [])) (fun _ k => XS.istore X0.here hx rfl (hb hby at_26) rfl (l' := #[.val (.int p0), .val (.int p1), .val (.int p2), .val (.int p3), .val (.int p4), .val (.int p5), .val (.int pc), .val (.int (p1 &&& (15 : Int32))), .val (.int ((p2 &&& (2147483647 : Int32)) % pc)), .val (.int (p3 &&& (15 : Int32))), .unset, .unset, .unset, .unset, .unset, .unset, .unset, .unset, .unset, .unset, .unset]) rfl k) ?_
    refine own_st (T' := s₁) (g' := (mkF m 30 #[.val (.int p0), .val (.int p1), .val (.int p2), .val (.int p3), .val (.int p4), .val (.int p5), .val (.int pc), .val (.int (p1 &&& (15 : Int32))), .val (.int ((p2 &&& (2147483647 : Int32)) % pc)), .val (.int (p3 &&& (15 : Int32))), .unset, .unset, .unset, .unset, .unset, .unset, .unset, .unset, .unset, .unset, .unset] [(.int p4)])) (fun _ k => XS.iload X0.here hx rfl (hb hby at_28) rfl k) ?_
    refine own_st (T' := s₁) (g' := (mkF m 32 #[.val (.int p0), .val (.int p1), .val (.int p2), .val (.int p3), .val (.int p4), .val (.int p5), .val (.int pc), .val (.int (p1 &&& (15 : Int32))), .val (.int ((p2 &&& (2147483647 : Int32)) % pc)), .val (.int (p3 &&& (15 : Int32))), .unset, .unset, .unset, .unset, .unset, .unset, .unset, .unset, .unset, .unset, .unset] [(.int (2147483647 : Int32)), (.int p4)])) (X0.ldcInt hx hown (mvT hZ (hw _ (List.mem_of_getElem? (i := 0) rfl))) (g := (mkF m 30 #[.val (.int p0), .val (.int p1), .val (.int p2), .val (.int p3), .val (.int p4), .val (.int p5), .val (.int pc), .val (.int (p1 &&& (15 : Int32))), .val (.int ((p2 &&& (2147483647 : Int32)) % pc)), .val (.int (p3 &&& (15 : Int32))), .unset, .unset, .unset, .unset, .unset, .unset, .unset, .unset, .unset, .unset, .unset] [(.int p4)])) rfl (hb hby at_30)) ?_
    refine own_st (T' := s₁) (g' := (mkF m 33 #[.val (.int p0), .val (.int p1), .val (.int p2), .val (.int p3), .val (.int p4), .val (.int p5), .val (.int pc), .val (.int (p1 &&& (15 : Int32))), .val (.int ((p2 &&& (2147483647 : Int32)) % pc)), .val (.int (p3 &&& (15 : Int32))), .unset, .unset, .unset, .unset, .unset, .unset, .unset, .unset, .unset, .unset, .unset] [(.int (p4 &&& (2147483647 : Int32)))])) (fun _ k => XS.iand X0.here hx rfl (hb hby at_32) rfl k) ?_
    refine own_st (T' := s₁) (g' := (mkF m 35 #[.val (.int p0), .val (.int p1), .val (.int p2), .val (.int p3), .val (.int p4), .val (.int p5), .val (.int pc), .val (.int (p1 &&& (15 : Int32))), .val (.int ((p2 &&& (2147483647 : Int32)) % pc)), .val (.int (p3 &&& (15 : Int32))), .unset, .unset, .unset, .unset, .unset, .unset, .unset, .unset, .unset, .unset, .unset] [(.int pc), (.int (p4 &&& (2147483647 : Int32)))])) (fun _ k => XS.iload X0.here hx rfl (hb hby at_33) rfl k) ?_
    refine own_st (T' := s₁) (g' := (mkF m 36 #[.val (.int p0), .val (.int p1), .val (.int p2), .val (.int p3), .val (.int p4), .val (.int p5), .val (.int pc), .val (.int (p1 &&& (15 : Int32))), .val (.int ((p2 &&& (2147483647 : Int32)) % pc)), .val (.int (p3 &&& (15 : Int32))), .unset, .unset, .unset, .unset, .unset, .unset, .unset, .unset, .unset, .unset, .unset] [(.int ((p4 &&& (2147483647 : Int32)) % pc))])) (fun _ k => iremM X0 hx rfl (hb hby at_35) rfl hpz k) ?_
    refine own_st (T' := s₁) (g' := (mkF m 38 #[.val (.int p0), .val (.int p1), .val (.int p2), .val (.int p3), .val (.int p4), .val (.int p5), .val (.int pc), .val (.int (p1 &&& (15 : Int32))), .val (.int ((p2 &&& (2147483647 : Int32)) % pc)), .val (.int (p3 &&& (15 : Int32))), .val (.int ((p4 &&& (2147483647 : Int32)) % pc)), .unset, .unset, .unset, .unset, .unset, .unset, .unset, .unset, .unset, .unset] [])) (fun _ k => XS.istore X0.here hx rfl (hb hby at_36) rfl (l' := #[.val (.int p0), .val (.int p1), .val (.int p2), .val (.int p3), .val (.int p4), .val (.int p5), .val (.int pc), .val (.int (p1 &&& (15 : Int32))), .val (.int ((p2 &&& (2147483647 : Int32)) % pc)), .val (.int (p3 &&& (15 : Int32))), .val (.int ((p4 &&& (2147483647 : Int32)) % pc)), .unset, .unset, .unset, .unset, .unset, .unset, .unset, .unset, .unset, .unset]) rfl k) ?_
    refine own_st (T' := s₁) (g' := (mkF m 39 #[.val (.int p0), .val (.int p1), .val (.int p2), .val (.int p3), .val (.int p4), .val (.int p5), .val (.int pc), .val (.int (p1 &&& (15 : Int32))), .val (.int ((p2 &&& (2147483647 : Int32)) % pc)), .val (.int (p3 &&& (15 : Int32))), .val (.int ((p4 &&& (2147483647 : Int32)) % pc)), .unset, .unset, .unset, .unset, .unset, .unset, .unset, .unset, .unset, .unset] [(.int p0)])) (fun _ k => XS.iloadN X0.here hx rfl (hb hby at_38) rfl k) ?_
    refine own_st (T' := s₁) (g' := (mkF m 40 #[.val (.int p0), .val (.int p1), .val (.int p2), .val (.int p3), .val (.int p4), .val (.int p5), .val (.int pc), .val (.int (p1 &&& (15 : Int32))), .val (.int ((p2 &&& (2147483647 : Int32)) % pc)), .val (.int (p3 &&& (15 : Int32))), .val (.int ((p4 &&& (2147483647 : Int32)) % pc)), .unset, .unset, .unset, .unset, .unset, .unset, .unset, .unset, .unset, .unset] [(.int (2 : Int32)), (.int p0)])) (fun _ k => XS.iconst X0.here hx rfl (hb hby at_39) k) ?_
    refine own_st (T' := s₁) (g' := (mkF m 41 #[.val (.int p0), .val (.int p1), .val (.int p2), .val (.int p3), .val (.int p4), .val (.int p5), .val (.int pc), .val (.int (p1 &&& (15 : Int32))), .val (.int ((p2 &&& (2147483647 : Int32)) % pc)), .val (.int (p3 &&& (15 : Int32))), .val (.int ((p4 &&& (2147483647 : Int32)) % pc)), .unset, .unset, .unset, .unset, .unset, .unset, .unset, .unset, .unset, .unset] [(.int ((p0.toUInt32 >>> ((2 : Int32) &&& 31).toUInt32).toInt32))])) (fun _ k => XS.iushr X0.here hx rfl (hb hby at_40) rfl k) ?_
    refine own_st (T' := s₁) (g' := (mkF m 43 #[.val (.int p0), .val (.int p1), .val (.int p2), .val (.int p3), .val (.int p4), .val (.int p5), .val (.int pc), .val (.int (p1 &&& (15 : Int32))), .val (.int ((p2 &&& (2147483647 : Int32)) % pc)), .val (.int (p3 &&& (15 : Int32))), .val (.int ((p4 &&& (2147483647 : Int32)) % pc)), .unset, .unset, .unset, .unset, .unset, .unset, .unset, .unset, .unset, .unset] [(.int (15 : Int32)), (.int ((p0.toUInt32 >>> ((2 : Int32) &&& 31).toUInt32).toInt32))])) (fun _ k => XS.bipush X0.here hx rfl (hb hby at_41) k) ?_
    refine own_st (T' := s₁) (g' := (mkF m 44 #[.val (.int p0), .val (.int p1), .val (.int p2), .val (.int p3), .val (.int p4), .val (.int p5), .val (.int pc), .val (.int (p1 &&& (15 : Int32))), .val (.int ((p2 &&& (2147483647 : Int32)) % pc)), .val (.int (p3 &&& (15 : Int32))), .val (.int ((p4 &&& (2147483647 : Int32)) % pc)), .unset, .unset, .unset, .unset, .unset, .unset, .unset, .unset, .unset, .unset] [(.int (((p0.toUInt32 >>> ((2 : Int32) &&& 31).toUInt32).toInt32) &&& (15 : Int32)))])) (fun _ k => XS.iand X0.here hx rfl (hb hby at_43) rfl k) ?_
    refine own_st (T' := s₁) (g' := (mkF m 46 #[.val (.int p0), .val (.int p1), .val (.int p2), .val (.int p3), .val (.int p4), .val (.int p5), .val (.int pc), .val (.int (p1 &&& (15 : Int32))), .val (.int ((p2 &&& (2147483647 : Int32)) % pc)), .val (.int (p3 &&& (15 : Int32))), .val (.int ((p4 &&& (2147483647 : Int32)) % pc)), .val (.int (((p0.toUInt32 >>> ((2 : Int32) &&& 31).toUInt32).toInt32) &&& (15 : Int32))), .unset, .unset, .unset, .unset, .unset, .unset, .unset, .unset, .unset] [])) (fun _ k => XS.istore X0.here hx rfl (hb hby at_44) rfl (l' := #[.val (.int p0), .val (.int p1), .val (.int p2), .val (.int p3), .val (.int p4), .val (.int p5), .val (.int pc), .val (.int (p1 &&& (15 : Int32))), .val (.int ((p2 &&& (2147483647 : Int32)) % pc)), .val (.int (p3 &&& (15 : Int32))), .val (.int ((p4 &&& (2147483647 : Int32)) % pc)), .val (.int (((p0.toUInt32 >>> ((2 : Int32) &&& 31).toUInt32).toInt32) &&& (15 : Int32))), .unset, .unset, .unset, .unset, .unset, .unset, .unset, .unset, .unset]) rfl k) ?_
    refine own_st (T' := s₁) (g' := (mkF m 47 #[.val (.int p0), .val (.int p1), .val (.int p2), .val (.int p3), .val (.int p4), .val (.int p5), .val (.int pc), .val (.int (p1 &&& (15 : Int32))), .val (.int ((p2 &&& (2147483647 : Int32)) % pc)), .val (.int (p3 &&& (15 : Int32))), .val (.int ((p4 &&& (2147483647 : Int32)) % pc)), .val (.int (((p0.toUInt32 >>> ((2 : Int32) &&& 31).toUInt32).toInt32) &&& (15 : Int32))), .unset, .unset, .unset, .unset, .unset, .unset, .unset, .unset, .unset] [(.int p0)])) (fun _ k => XS.iloadN X0.here hx rfl (hb hby at_46) rfl k) ?_
    refine own_st (T' := s₁) (g' := (mkF m 49 #[.val (.int p0), .val (.int p1), .val (.int p2), .val (.int p3), .val (.int p4), .val (.int p5), .val (.int pc), .val (.int (p1 &&& (15 : Int32))), .val (.int ((p2 &&& (2147483647 : Int32)) % pc)), .val (.int (p3 &&& (15 : Int32))), .val (.int ((p4 &&& (2147483647 : Int32)) % pc)), .val (.int (((p0.toUInt32 >>> ((2 : Int32) &&& 31).toUInt32).toInt32) &&& (15 : Int32))), .unset, .unset, .unset, .unset, .unset, .unset, .unset, .unset, .unset] [(.int (6 : Int32)), (.int p0)])) (fun _ k => XS.bipush X0.here hx rfl (hb hby at_47) k) ?_
    refine own_st (T' := s₁) (g' := (mkF m 50 #[.val (.int p0), .val (.int p1), .val (.int p2), .val (.int p3), .val (.int p4), .val (.int p5), .val (.int pc), .val (.int (p1 &&& (15 : Int32))), .val (.int ((p2 &&& (2147483647 : Int32)) % pc)), .val (.int (p3 &&& (15 : Int32))), .val (.int ((p4 &&& (2147483647 : Int32)) % pc)), .val (.int (((p0.toUInt32 >>> ((2 : Int32) &&& 31).toUInt32).toInt32) &&& (15 : Int32))), .unset, .unset, .unset, .unset, .unset, .unset, .unset, .unset, .unset] [(.int ((p0.toUInt32 >>> ((6 : Int32) &&& 31).toUInt32).toInt32))])) (fun _ k => XS.iushr X0.here hx rfl (hb hby at_49) rfl k) ?_
    refine own_st (T' := s₁) (g' := (mkF m 52 #[.val (.int p0), .val (.int p1), .val (.int p2), .val (.int p3), .val (.int p4), .val (.int p5), .val (.int pc), .val (.int (p1 &&& (15 : Int32))), .val (.int ((p2 &&& (2147483647 : Int32)) % pc)), .val (.int (p3 &&& (15 : Int32))), .val (.int ((p4 &&& (2147483647 : Int32)) % pc)), .val (.int (((p0.toUInt32 >>> ((2 : Int32) &&& 31).toUInt32).toInt32) &&& (15 : Int32))), .unset, .unset, .unset, .unset, .unset, .unset, .unset, .unset, .unset] [(.int (67108863 : Int32)), (.int ((p0.toUInt32 >>> ((6 : Int32) &&& 31).toUInt32).toInt32))])) (X0.ldcInt hx hown (mvT hZ (hw _ (List.mem_of_getElem? (i := 1) rfl))) (g := (mkF m 50 #[.val (.int p0), .val (.int p1), .val (.int p2), .val (.int p3), .val (.int p4), .val (.int p5), .val (.int pc), .val (.int (p1 &&& (15 : Int32))), .val (.int ((p2 &&& (2147483647 : Int32)) % pc)), .val (.int (p3 &&& (15 : Int32))), .val (.int ((p4 &&& (2147483647 : Int32)) % pc)), .val (.int (((p0.toUInt32 >>> ((2 : Int32) &&& 31).toUInt32).toInt32) &&& (15 : Int32))), .unset, .unset, .unset, .unset, .unset, .unset, .unset, .unset, .unset] [(.int ((p0.toUInt32 >>> ((6 : Int32) &&& 31).toUInt32).toInt32))])) rfl (hb hby at_50)) ?_
    refine own_st (T' := s₁) (g' := (mkF m 53 #[.val (.int p0), .val (.int p1), .val (.int p2), .val (.int p3), .val (.int p4), .val (.int p5), .val (.int pc), .val (.int (p1 &&& (15 : Int32))), .val (.int ((p2 &&& (2147483647 : Int32)) % pc)), .val (.int (p3 &&& (15 : Int32))), .val (.int ((p4 &&& (2147483647 : Int32)) % pc)), .val (.int (((p0.toUInt32 >>> ((2 : Int32) &&& 31).toUInt32).toInt32) &&& (15 : Int32))), .unset, .unset, .unset, .unset, .unset, .unset, .unset, .unset, .unset] [(.int (((p0.toUInt32 >>> ((6 : Int32) &&& 31).toUInt32).toInt32) &&& (67108863 : Int32)))])) (fun _ k => XS.iand X0.here hx rfl (hb hby at_52) rfl k) ?_
    refine own_st (T' := s₁) (g' := (mkF m 55 #[.val (.int p0), .val (.int p1), .val (.int p2), .val (.int p3), .val (.int p4), .val (.int p5), .val (.int pc), .val (.int (p1 &&& (15 : Int32))), .val (.int ((p2 &&& (2147483647 : Int32)) % pc)), .val (.int (p3 &&& (15 : Int32))), .val (.int ((p4 &&& (2147483647 : Int32)) % pc)), .val (.int (((p0.toUInt32 >>> ((2 : Int32) &&& 31).toUInt32).toInt32) &&& (15 : Int32))), .unset, .unset, .unset, .unset, .unset, .unset, .unset, .unset, .unset] [(.int pc), (.int (((p0.toUInt32 >>> ((6 : Int32) &&& 31).toUInt32).toInt32) &&& (67108863 : Int32)))])) (fun _ k => XS.iload X0.here hx rfl (hb hby at_53) rfl k) ?_
    refine own_st (T' := s₁) (g' := (mkF m 56 #[.val (.int p0), .val (.int p1), .val (.int p2), .val (.int p3), .val (.int p4), .val (.int p5), .val (.int pc), .val (.int (p1 &&& (15 : Int32))), .val (.int ((p2 &&& (2147483647 : Int32)) % pc)), .val (.int (p3 &&& (15 : Int32))), .val (.int ((p4 &&& (2147483647 : Int32)) % pc)), .val (.int (((p0.toUInt32 >>> ((2 : Int32) &&& 31).toUInt32).toInt32) &&& (15 : Int32))), .unset, .unset, .unset, .unset, .unset, .unset, .unset, .unset, .unset] [(.int ((((p0.toUInt32 >>> ((6 : Int32) &&& 31).toUInt32).toInt32) &&& (67108863 : Int32)) % pc))])) (fun _ k => iremM X0 hx rfl (hb hby at_55) rfl hpz k) ?_
    refine own_st (T' := s₁) (g' := (mkF m 58 #[.val (.int p0), .val (.int p1), .val (.int p2), .val (.int p3), .val (.int p4), .val (.int p5), .val (.int pc), .val (.int (p1 &&& (15 : Int32))), .val (.int ((p2 &&& (2147483647 : Int32)) % pc)), .val (.int (p3 &&& (15 : Int32))), .val (.int ((p4 &&& (2147483647 : Int32)) % pc)), .val (.int (((p0.toUInt32 >>> ((2 : Int32) &&& 31).toUInt32).toInt32) &&& (15 : Int32))), .val (.int ((((p0.toUInt32 >>> ((6 : Int32) &&& 31).toUInt32).toInt32) &&& (67108863 : Int32)) % pc)), .unset, .unset, .unset, .unset, .unset, .unset, .unset, .unset] [])) (fun _ k => XS.istore X0.here hx rfl (hb hby at_56) rfl (l' := #[.val (.int p0), .val (.int p1), .val (.int p2), .val (.int p3), .val (.int p4), .val (.int p5), .val (.int pc), .val (.int (p1 &&& (15 : Int32))), .val (.int ((p2 &&& (2147483647 : Int32)) % pc)), .val (.int (p3 &&& (15 : Int32))), .val (.int ((p4 &&& (2147483647 : Int32)) % pc)), .val (.int (((p0.toUInt32 >>> ((2 : Int32) &&& 31).toUInt32).toInt32) &&& (15 : Int32))), .val (.int ((((p0.toUInt32 >>> ((6 : Int32) &&& 31).toUInt32).toInt32) &&& (67108863 : Int32)) % pc)), .unset, .unset, .unset, .unset, .unset, .unset, .unset, .unset]) rfl k) ?_
    have J58 : ∀ (ev1 : Int32) (pr1 : Int32) (ev2 : Int32) (pr2 : Int32) (ev3 : Int32) (pr3 : Int32) (he1 : 0 ≤ ev1.toInt ∧ ev1.toInt ≤ 15) (hr1 : 0 ≤ pr1.toInt ∧ pr1.toInt < pc.toInt) (he2 : 0 ≤ ev2.toInt ∧ ev2.toInt ≤ 15) (hr2 : 0 ≤ pr2.toInt ∧ pr2.toInt < pc.toInt) (he3 : 0 ≤ ev3.toInt ∧ ev3.toInt ≤ 15) (hr3 : 0 ≤ pr3.toInt ∧ pr3.toInt < pc.toInt), own_Go p e below s (own_law_Q Z p0 p1 p2 p3 p4 p5 cs h0 n0) 32 320 s₁ (mkF m 58 #[.val (.int p0), .val (.int p1), .val (.int p2), .val (.int p3), .val (.int p4), .val (.int p5), .val (.int pc), .val (.int ev1), .val (.int pr1), .val (.int ev2), .val (.int pr2), .val (.int ev3), .val (.int pr3), .unset, .unset, .unset, .unset, .unset, .unset, .unset, .unset] []) := by
      intro ev1 pr1 ev2 pr2 ev3 pr3 he1 hr1 he2 hr2 he3 hr3
      obtain ⟨i1, hi1, hj1, hl1⟩ := own_ix he1 hpc hr1
      obtain ⟨i2, hi2, hj2, hl2⟩ := own_ix he2 hpc hr2
      obtain ⟨i3, hi3, hj3, hl3⟩ := own_ix he3 hpc hr3
      have inj12 := own_inj hpc hr1 hr2 hi1 hi2
      have inj32 := own_inj hpc hr3 hr2 hi3 hi2
      have inj31 := own_inj hpc hr3 hr1 hi3 hi1
      obtain ⟨N, hNN⟩ : ∃ N : Nat, (N : Int) = 16 * pc.toInt := ⟨(16 * pc.toInt).toNat, by omega⟩
      have h16 : (16 : Int32).toInt = 16 := rfl
      have hN : ((16 : Int32) * pc).toInt = N := by rw [Jvm.Free.XT.mul32 ⟨by rw [h16]; omega, by rw [h16]; omega⟩, h16]; omega
      have hN64 : N ≤ 64 := by omega
      have l1 : i1 < N := by omega
      have l2 : i2 < N := by omega
      have l3 : i3 < N := by omega
      refine own_st (T' := s₁) (g' := (mkF m 60 #[.val (.int p0), .val (.int p1), .val (.int p2), .val (.int p3), .val (.int p4), .val (.int p5), .val (.int pc), .val (.int ev1), .val (.int pr1), .val (.int ev2), .val (.int pr2), .val (.int ev3), .val (.int pr3), .unset, .unset, .unset, .unset, .unset, .unset, .unset, .unset] [(.int p5)])) (fun _ k => XS.iload X0.here hx rfl (hb hby at_58) rfl k) ?_
      refine own_st (T' := s₁) (g' := (mkF m 63 #[.val (.int p0), .val (.int p1), .val (.int p2), .val (.int p3), .val (.int p4), .val (.int p5), .val (.int pc), .val (.int ev1), .val (.int pr1), .val (.int ev2), .val (.int pr2), .val (.int ev3), .val (.int pr3), .unset, .unset, .unset, .unset, .unset, .unset, .unset, .unset] [(.int (255 : Int32)), (.int p5)])) (fun _ k => XS.sipush X0.here hx rfl (hb hby at_60) k) ?_
      refine own_st (T' := s₁) (g' := (mkF m 64 #[.val (.int p0), .val (.int p1), .val (.int p2), .val (.int p3), .val (.int p4), .val (.int p5), .val (.int pc), .val (.int ev1), .val (.int pr1), .val (.int ev2), .val (.int pr2), .val (.int ev3), .val (.int pr3), .unset, .unset, .unset, .unset, .unset, .unset, .unset, .unset] [(.int (p5 &&& (255 : Int32)))])) (fun _ k => XS.iand X0.here hx rfl (hb hby at_63) rfl k) ?_
      refine own_st (T' := s₁) (g' := (mkF m 65 #[.val (.int p0), .val (.int p1), .val (.int p2), .val (.int p3), .val (.int p4), .val (.int p5), .val (.int pc), .val (.int ev1), .val (.int pr1), .val (.int ev2), .val (.int pr2), .val (.int ev3), .val (.int pr3), .unset, .unset, .unset, .unset, .unset, .unset, .unset, .unset] [(.int ((p5 &&& (255 : Int32)).toUInt32.toUInt16.toUInt32.toInt32))])) (fun _ k => XS.i2c X0.here hx rfl (hb hby at_64) rfl k) ?_
      obtain ⟨_, _, ⟨T28, L28, k28, n28⟩, -, X28, ⟨Lc28, hQ28, l28, y28, z28⟩, st28⟩ := Jvm.LawKit.callS X0 hx (y := (⟨"java/lang/String", "valueOf", "(C)Ljava/lang/String;"⟩ : MethodName)) hown (mvT hZ (hw _ (List.mem_of_getElem? (i := 2) rfl))) (mvT hZ (hw _ (List.mem_of_getElem? (i := 3) rfl))) (mvT hZ (hw _ (List.mem_of_getElem? (i := 4) rfl))) (mvT hZ (hw _ (List.mem_of_getElem? (i := 5) rfl))) (by decide) (backOf (W := 0) (own_valueOf l Z a0 hw [] ((p5 &&& (255 : Int32)).toUInt32.toUInt16.toUInt32.toInt32) cs h0 n0 Z0 (own_char _) (SC0.ext O.2) hcs) hZ (hw _ (List.mem_of_getElem? (i := 5) rfl)) (hw _ (List.mem_of_getElem? (i := 4) rfl)) (by decide) (by decide)) (g := (mkF m 65 #[.val (.int p0), .val (.int p1), .val (.int p2), .val (.int p3), .val (.int p4), .val (.int p5), .val (.int pc), .val (.int ev1), .val (.int pr1), .val (.int ev2), .val (.int pr2), .val (.int ev3), .val (.int pr3), .unset, .unset, .unset, .unset, .unset, .unset, .unset, .unset] [(.int ((p5 &&& (255 : Int32)).toUInt32.toUInt16.toUInt32.toInt32))])) rfl (by rw [hml]; rfl) (argsL := [(.int ((p5 &&& (255 : Int32)).toUInt32.toUInt16.toUInt32.toInt32))]) (rest := []) (lenOf own_pd3 rfl) rfl (by show 2 * 0 + _ ≤ _; exact Nat.le_of_eq rfl) (hb hby at_65) (fun _ _ => ⟨rfl, e0, (by decide : 0 + 2 ≤ _), (by decide : 0 + 5 ≤ _)⟩)
      dsimp only [Pt.U, Pt.locs, Pt.cells, Pt.slots] at X28 l28 y28 z28 st28 hQ28
      subst l28 y28 z28
      obtain ⟨sa, tsa, ksa, rfl, N28q, K28, gsa, -, E_sa, -, -, -⟩ := hQ28
      have N0' := Fr.app N0 N28q
      have ge_sa : n0 ≤ sa := Nat.le_trans Z0 gsa
      have O := O.keep K28 (all0)
      have Z0' := Nat.le_trans Z0 K28.1
      refine own_st (T' := T28) (g' := (mkF m 68 #[.val (.int p0), .val (.int p1), .val (.int p2), .val (.int p3), .val (.int p4), .val (.int p5), .val (.int pc), .val (.int ev1), .val (.int pr1), .val (.int ev2), .val (.int pr2), .val (.int ev3), .val (.int pr3), .unset, .unset, .unset, .unset, .unset, .unset, .unset, .unset] [(.ref sa)])) st28 ?_
      refine own_st (T' := T28) (g' := (mkF m 70 #[.val (.int p0), .val (.int p1), .val (.int p2), .val (.int p3), .val (.int p4), .val (.int p5), .val (.int pc), .val (.int ev1), .val (.int pr1), .val (.int ev2), .val (.int pr2), .val (.int ev3), .val (.int pr3), .val (.ref sa), .unset, .unset, .unset, .unset, .unset, .unset, .unset] [])) (fun _ k => XS.astore X28.here hx rfl (hb hby at_68) rfl rfl (l' := #[.val (.int p0), .val (.int p1), .val (.int p2), .val (.int p3), .val (.int p4), .val (.int p5), .val (.int pc), .val (.int ev1), .val (.int pr1), .val (.int ev2), .val (.int pr2), .val (.int ev3), .val (.int pr3), .val (.ref sa), .unset, .unset, .unset, .unset, .unset, .unset, .unset]) rfl k) ?_
      refine own_st (T' := T28) (g' := (mkF m 72 #[.val (.int p0), .val (.int p1), .val (.int p2), .val (.int p3), .val (.int p4), .val (.int p5), .val (.int pc), .val (.int ev1), .val (.int pr1), .val (.int ev2), .val (.int pr2), .val (.int ev3), .val (.int pr3), .val (.ref sa), .unset, .unset, .unset, .unset, .unset, .unset, .unset] [(.int p5)])) (fun _ k => XS.iload X28.here hx rfl (hb hby at_70) rfl k) ?_
      refine own_st (T' := T28) (g' := (mkF m 74 #[.val (.int p0), .val (.int p1), .val (.int p2), .val (.int p3), .val (.int p4), .val (.int p5), .val (.int pc), .val (.int ev1), .val (.int pr1), .val (.int ev2), .val (.int pr2), .val (.int ev3), .val (.int pr3), .val (.ref sa), .unset, .unset, .unset, .unset, .unset, .unset, .unset] [(.int (8 : Int32)), (.int p5)])) (fun _ k => XS.bipush X28.here hx rfl (hb hby at_72) k) ?_
      refine own_st (T' := T28) (g' := (mkF m 75 #[.val (.int p0), .val (.int p1), .val (.int p2), .val (.int p3), .val (.int p4), .val (.int p5), .val (.int pc), .val (.int ev1), .val (.int pr1), .val (.int ev2), .val (.int pr2), .val (.int ev3), .val (.int pr3), .val (.ref sa), .unset, .unset, .unset, .unset, .unset, .unset, .unset] [(.int ((p5.toUInt32 >>> ((8 : Int32) &&& 31).toUInt32).toInt32))])) (fun _ k => XS.iushr X28.here hx rfl (hb hby at_74) rfl k) ?_
      refine own_st (T' := T28) (g' := (mkF m 78 #[.val (.int p0), .val (.int p1), .val (.int p2), .val (.int p3), .val (.int p4), .val (.int p5), .val (.int pc), .val (.int ev1), .val (.int pr1), .val (.int ev2), .val (.int pr2), .val (.int ev3), .val (.int pr3), .val (.ref sa), .unset, .unset, .unset, .unset, .unset, .unset, .unset] [(.int (255 : Int32)), (.int ((p5.toUInt32 >>> ((8 : Int32) &&& 31).toUInt32).toInt32))])) (fun _ k => XS.sipush X28.here hx rfl (hb hby at_75) k) ?_
      refine own_st (T' := T28) (g' := (mkF m 79 #[.val (.int p0), .val (.int p1), .val (.int p2), .val (.int p3), .val (.int p4), .val (.int p5), .val (.int pc), .val (.int ev1), .val (.int pr1), .val (.int ev2), .val (.int pr2), .val (.int ev3), .val (.int pr3), .val (.ref sa), .unset, .unset, .unset, .unset, .unset, .unset, .unset] [(.int (((p5.toUInt32 >>> ((8 : Int32) &&& 31).toUInt32).toInt32) &&& (255 : Int32)))])) (fun _ k => XS.iand X28.here hx rfl (hb hby at_78) rfl k) ?_
      refine own_st (T' := T28) (g' := (mkF m 80 #[.val (.int p0), .val (.int p1), .val (.int p2), .val (.int p3), .val (.int p4), .val (.int p5), .val (.int pc), .val (.int ev1), .val (.int pr1), .val (.int ev2), .val (.int pr2), .val (.int ev3), .val (.int pr3), .val (.ref sa), .unset, .unset, .unset, .unset, .unset, .unset, .unset] [(.int ((((p5.toUInt32 >>> ((8 : Int32) &&& 31).toUInt32).toInt32) &&& (255 : Int32)).toUInt32.toUInt16.toUInt32.toInt32))])) (fun _ k => XS.i2c X28.here hx rfl (hb hby at_79) rfl k) ?_
      have lt_sa := E_sa.lt
      obtain ⟨_, _, ⟨T29, L29, k29, n29⟩, -, X29, ⟨Lc29, hQ29, l29, y29, z29⟩, st29⟩ := Jvm.LawKit.callS X28 hx (y := (⟨"java/lang/String", "valueOf", "(C)Ljava/lang/String;"⟩ : MethodName)) hown (mvT hZ (hw _ (List.mem_of_getElem? (i := 2) rfl))) (mvT hZ (hw _ (List.mem_of_getElem? (i := 3) rfl))) (mvT hZ (hw _ (List.mem_of_getElem? (i := 4) rfl))) (mvT hZ (hw _ (List.mem_of_getElem? (i := 5) rfl))) (by decide) (backOf (W := 0) (own_valueOf l Z a0 hw [] ((((p5.toUInt32 >>> ((8 : Int32) &&& 31).toUInt32).toInt32) &&& (255 : Int32)).toUInt32.toUInt16.toUInt32.toInt32) cs T28.heap n0 Z0' (own_char _) (SC0.ext O.2) hcs) hZ (hw _ (List.mem_of_getElem? (i := 5) rfl)) (hw _ (List.mem_of_getElem? (i := 4) rfl)) (by decide) (by decide)) (g := (mkF m 80 #[.val (.int p0), .val (.int p1), .val (.int p2), .val (.int p3), .val (.int p4), .val (.int p5), .val (.int pc), .val (.int ev1), .val (.int pr1), .val (.int ev2), .val (.int pr2), .val (.int ev3), .val (.int pr3), .val (.ref sa), .unset, .unset, .unset, .unset, .unset, .unset, .unset] [(.int ((((p5.toUInt32 >>> ((8 : Int32) &&& 31).toUInt32).toInt32) &&& (255 : Int32)).toUInt32.toUInt16.toUInt32.toInt32))])) rfl (by rw [hml]; rfl) (argsL := [(.int ((((p5.toUInt32 >>> ((8 : Int32) &&& 31).toUInt32).toInt32) &&& (255 : Int32)).toUInt32.toUInt16.toUInt32.toInt32))]) (rest := []) (lenOf own_pd3 rfl) rfl (by show 2 * 0 + _ ≤ _; exact Nat.le_of_eq rfl) (hb hby at_80) (fun _ _ => ⟨rfl, rfl, (by decide : (0 + 2) + 2 ≤ _), (by decide : (0 + 5) + 5 ≤ _)⟩)
      dsimp only [Pt.U, Pt.locs, Pt.cells, Pt.slots] at X29 l29 y29 z29 st29 hQ29
      subst l29 y29 z29
      obtain ⟨sb, tsb, ksb, rfl, N29q, K29, gsb, -, E_sb, -, -, -⟩ := hQ29
      have N0'' := Fr.app N0' N29q
      have ne_sa_sb : sa ≠ sb := own_ne2 lt_sa gsb
      have ge_sb : n0 ≤ sb := Nat.le_trans Z0' gsb
      have O := O.keep K29 (all0)
      have E_sa := E_sa.keep K29
      have Z0'' := Nat.le_trans Z0' K29.1
      refine own_st (T' := T29) (g' := (mkF m 83 #[.val (.int p0), .val (.int p1), .val (.int p2), .val (.int p3), .val (.int p4), .val (.int p5), .val (.int pc), .val (.int ev1), .val (.int pr1), .val (.int ev2), .val (.int pr2), .val (.int ev3), .val (.int pr3), .val (.ref sa), .unset, .unset, .unset, .unset, .unset, .unset, .unset] [(.ref sb)])) st29 ?_
      refine own_st (T' := T29) (g' := (mkF m 85 #[.val (.int p0), .val (.int p1), .val (.int p2), .val (.int p3), .val (.int p4), .val (.int p5), .val (.int pc), .val (.int ev1), .val (.int pr1), .val (.int ev2), .val (.int pr2), .val (.int ev3), .val (.int pr3), .val (.ref sa), .val (.ref sb), .unset, .unset, .unset, .unset, .unset, .unset] [])) (fun _ k => XS.astore X29.here hx rfl (hb hby at_83) rfl rfl (l' := #[.val (.int p0), .val (.int p1), .val (.int p2), .val (.int p3), .val (.int p4), .val (.int p5), .val (.int pc), .val (.int ev1), .val (.int pr1), .val (.int ev2), .val (.int pr2), .val (.int ev3), .val (.int pr3), .val (.ref sa), .val (.ref sb), .unset, .unset, .unset, .unset, .unset, .unset]) rfl k) ?_
      obtain ⟨T30, h30, X30, e30, E30, A30, D30, -, st30⟩ := newO X29 hx hZ hown (hw _ (List.mem_of_getElem? (i := 28) rfl)) (hw _ (List.mem_of_getElem? (i := 29) rfl)) (hw _ (List.mem_of_getElem? (i := 30) rfl)) rfl (g := (mkF m 85 #[.val (.int p0), .val (.int p1), .val (.int p2), .val (.int p3), .val (.int p4), .val (.int p5), .val (.int pc), .val (.int ev1), .val (.int pr1), .val (.int ev2), .val (.int pr2), .val (.int ev3), .val (.int pr3), .val (.ref sa), .val (.ref sb), .unset, .unset, .unset, .unset, .unset, .unset] [])) rfl (hb hby at_85) (by decide) (by decide)
      obtain ⟨u, gu⟩ : ∃ z, z = T29.heap.size := ⟨_, rfl⟩
      rw [← gu] at A30 D30 st30
      have ne_sa_u : sa ≠ u := own_ne E_sa.lt gu
      have ne_sb_u : sb ≠ u := own_ne E_sb.lt gu
      have ge_u : n0 ≤ u := own_ge Z0'' gu
      have O := O.ext E30
      have E_sa := E_sa.ext E30
      have E_sb := E_sb.ext E30
      have Z0''' := Nat.le_trans Z0'' E30.1
      have E_u := A30
      have F_id_u : Fld Z h30 u "com/example/funnelwright/funnelwright/UserEvents" "id" "[B" .null := D30 (Or.inl (hw _ (List.mem_of_getElem? (i := 36) rfl))) (ty := (.array .byte)) (by decide)
      have F_times_u : Fld Z h30 u "com/example/funnelwright/funnelwright/UserEvents" "times" "[J" .null := D30 (Or.inl (hw _ (List.mem_of_getElem? (i := 39) rfl))) (ty := (.array .long)) (by decide)
      have F_kinds_u : Fld Z h30 u "com/example/funnelwright/funnelwright/UserEvents" "kinds" "[I" .null := D30 (Or.inl (hw _ (List.mem_of_getElem? (i := 42) rfl))) (ty := (.array .int)) (by decide)
      have F_propertyCount_u : Fld Z h30 u "com/example/funnelwright/funnelwright/UserEvents" "propertyCount" "I" (.int (0 : Int32)) := D30 (Or.inr (hw _ (List.mem_of_getElem? (i := 44) rfl))) (ty := .int) (by decide)
      have F_properties_u : Fld Z h30 u "com/example/funnelwright/funnelwright/UserEvents" "properties" "[Ljava/lang/String;" .null := D30 (Or.inl (hw _ (List.mem_of_getElem? (i := 48) rfl))) (ty := (.array (.object "java/lang/String"))) (by decide)
      have F_size_u : Fld Z h30 u "com/example/funnelwright/funnelwright/UserEvents" "size" "I" (.int (0 : Int32)) := D30 (Or.inl (hw _ (List.mem_of_getElem? (i := 65) rfl))) (ty := .int) (by decide)
      refine own_st (T' := T30) (g' := (mkF m 88 #[.val (.int p0), .val (.int p1), .val (.int p2), .val (.int p3), .val (.int p4), .val (.int p5), .val (.int pc), .val (.int ev1), .val (.int pr1), .val (.int ev2), .val (.int pr2), .val (.int ev3), .val (.int pr3), .val (.ref sa), .val (.ref sb), .unset, .unset, .unset, .unset, .unset, .unset] [(.ref u)])) st30 ?_
      refine own_st (T' := T30) (g' := (mkF m 89 #[.val (.int p0), .val (.int p1), .val (.int p2), .val (.int p3), .val (.int p4), .val (.int p5), .val (.int pc), .val (.int ev1), .val (.int pr1), .val (.int ev2), .val (.int pr2), .val (.int ev3), .val (.int pr3), .val (.ref sa), .val (.ref sb), .unset, .unset, .unset, .unset, .unset, .unset] [(.ref u), (.ref u)])) (fun _ k => XS.dup X30.here hx rfl (hb hby at_88) rfl rfl k) ?_
      refine own_st (T' := T30) (g' := (mkF m 91 #[.val (.int p0), .val (.int p1), .val (.int p2), .val (.int p3), .val (.int p4), .val (.int p5), .val (.int pc), .val (.int ev1), .val (.int pr1), .val (.int ev2), .val (.int pr2), .val (.int ev3), .val (.int pr3), .val (.ref sa), .val (.ref sb), .unset, .unset, .unset, .unset, .unset, .unset] [(.int pc), (.ref u), (.ref u)])) (fun _ k => XS.iload X30.here hx rfl (hb hby at_89) rfl k) ?_
      have lt_sa := E_sa.lt
      have lt_sb := E_sb.lt
      have lt_u := E_u.lt
      obtain ⟨_, _, ⟨T31, L31, k31, n31⟩, -, X31, ⟨Lc31, hQ31, l31, y31, z31⟩, st31⟩ := X30.specialBack hx (y := (⟨"com/example/funnelwright/funnelwright/UserEvents", "<init>", "(I)V"⟩ : MethodName)) rfl hown (mvT hZ (hw _ (List.mem_of_getElem? (i := 31) rfl))) (mvT hZ (hw _ (List.mem_of_getElem? (i := 32) rfl))) (mvT hZ (hw _ (List.mem_of_getElem? (i := 33) rfl))) (by decide) (backOf (W := 1) (own_ini l Z a0 hw [] u pc N h30 n0 Z0''' F_id_u F_times_u F_kinds_u F_propertyCount_u F_properties_u F_size_u E_u ge_u hN hN64) hZ (hw _ (List.mem_of_getElem? (i := 33) rfl)) (hw _ (List.mem_of_getElem? (i := 30) rfl)) (by decide) (by decide)) (g := (mkF m 91 #[.val (.int p0), .val (.int p1), .val (.int p2), .val (.int p3), .val (.int p4), .val (.int p5), .val (.int pc), .val (.int ev1), .val (.int pr1), .val (.int ev2), .val (.int pr2), .val (.int ev3), .val (.int pr3), .val (.ref sa), .val (.ref sb), .unset, .unset, .unset, .unset, .unset, .unset] [(.int pc), (.ref u), (.ref u)])) rfl (by rw [hml]; rfl) (Steps.refl _) (a := u) (argsL := [(.int pc)]) (rest := [(.ref u)]) (lenOf own_pd4 rfl) rfl (by show 2 * 0 + _ ≤ _; exact Nat.le_of_eq rfl) (hb hby at_91) (fun _ _ => ⟨rfl, e30, (by decide : (((0 + 2) + 2) + 1) + 4 ≤ _), (by decide : (((0 + 5) + 5) + 8) + 96 ≤ _)⟩)
      dsimp only [Pt.U, Pt.locs, Pt.cells, Pt.slots] at X31 l31 y31 z31 st31 hQ31
      subst l31 y31 z31
      obtain ⟨rfl, N31q, K31, -, Fc, Fz, t, k, Fp, V_t, Ov, gt⟩ := hQ31
      have N0''' := Fr.app N0'' N31q
      have ne_sa_t : sa ≠ t := own_ne2 lt_sa gt
      have ne_sb_t : sb ≠ t := own_ne2 lt_sb gt
      have ne_u_t : u ≠ t := own_ne2 lt_u gt
      have ge_t : n0 ≤ t := Nat.le_trans Z0''' gt
      have O := O.keep K31 ((allS ge_u all0))
      have E_sa := E_sa.keep K31
      have E_sb := E_sb.keep K31
      have E_u := E_u.keep K31
      have Z0'''' := Nat.le_trans Z0''' K31.1
      refine own_tr (T' := T31) (g' := (mkF m 94 #[.val (.int p0), .val (.int p1), .val (.int p2), .val (.int p3), .val (.int p4), .val (.int p5), .val (.int pc), .val (.int ev1), .val (.int pr1), .val (.int ev2), .val (.int pr2), .val (.int ev3), .val (.int pr3), .val (.ref sa), .val (.ref sb), .unset, .unset, .unset, .unset, .unset, .unset] [(.ref u)])) st31 ?_
      refine own_st (T' := T31) (g' := (mkF m 96 #[.val (.int p0), .val (.int p1), .val (.int p2), .val (.int p3), .val (.int p4), .val (.int p5), .val (.int pc), .val (.int ev1), .val (.int pr1), .val (.int ev2), .val (.int pr2), .val (.int ev3), .val (.int pr3), .val (.ref sa), .val (.ref sb), .val (.ref u), .unset, .unset, .unset, .unset, .unset] [])) (fun _ k => XS.astore X31.here hx rfl (hb hby at_94) rfl rfl (l' := #[.val (.int p0), .val (.int p1), .val (.int p2), .val (.int p3), .val (.int p4), .val (.int p5), .val (.int pc), .val (.int ev1), .val (.int pr1), .val (.int ev2), .val (.int pr2), .val (.int ev3), .val (.int pr3), .val (.ref sa), .val (.ref sb), .val (.ref u), .unset, .unset, .unset, .unset, .unset]) rfl k) ?_
      refine own_st (T' := T31) (g' := (mkF m 98 #[.val (.int p0), .val (.int p1), .val (.int p2), .val (.int p3), .val (.int p4), .val (.int p5), .val (.int pc), .val (.int ev1), .val (.int pr1), .val (.int ev2), .val (.int pr2), .val (.int ev3), .val (.int pr3), .val (.ref sa), .val (.ref sb), .val (.ref u), .unset, .unset, .unset, .unset, .unset] [(.ref u)])) (fun _ k => XS.aload X31.here hx rfl (hb hby at_96) rfl rfl k) ?_
      refine own_st (T' := T31) (g' := (mkF m 100 #[.val (.int p0), .val (.int p1), .val (.int p2), .val (.int p3), .val (.int p4), .val (.int p5), .val (.int pc), .val (.int ev1), .val (.int pr1), .val (.int ev2), .val (.int pr2), .val (.int ev3), .val (.int pr3), .val (.ref sa), .val (.ref sb), .val (.ref u), .unset, .unset, .unset, .unset, .unset] [(.int ev1), (.ref u)])) (fun _ k => XS.iload X31.here hx rfl (hb hby at_98) rfl k) ?_
      refine own_st (T' := T31) (g' := (mkF m 102 #[.val (.int p0), .val (.int p1), .val (.int p2), .val (.int p3), .val (.int p4), .val (.int p5), .val (.int pc), .val (.int ev1), .val (.int pr1), .val (.int ev2), .val (.int pr2), .val (.int ev3), .val (.int pr3), .val (.ref sa), .val (.ref sb), .val (.ref u), .unset, .unset, .unset, .unset, .unset] [(.int pr1), (.int ev1), (.ref u)])) (fun _ k => XS.iload X31.here hx rfl (hb hby at_100) rfl k) ?_
      refine own_st (T' := T31) (g' := (mkF m 104 #[.val (.int p0), .val (.int p1), .val (.int p2), .val (.int p3), .val (.int p4), .val (.int p5), .val (.int pc), .val (.int ev1), .val (.int pr1), .val (.int ev2), .val (.int pr2), .val (.int ev3), .val (.int pr3), .val (.ref sa), .val (.ref sb), .val (.ref u), .unset, .unset, .unset, .unset, .unset] [(.ref sa), (.int pr1), (.int ev1), (.ref u)])) (fun _ k => XS.aload X31.here hx rfl (hb hby at_102) rfl rfl k) ?_
      obtain ⟨cq32, kq32, q32a, q32b, q32c⟩ := isOf hZ rfl E_u
      obtain ⟨_, _, ⟨T32, L32, k32, n32⟩, -, X32, ⟨Lc32, hQ32, l32, y32, z32⟩, st32⟩ := X31.virtualBack hx (y := (⟨"com/example/funnelwright/funnelwright/UserEvents", "setProperty", "(IILjava/lang/String;)V"⟩ : MethodName)) (z := (⟨"com/example/funnelwright/funnelwright/UserEvents", "setProperty", "(IILjava/lang/String;)V"⟩ : MethodName)) hown (mvT hZ (hw _ (List.mem_of_getElem? (i := 49) rfl))) (mvT hZ (hw _ (List.mem_of_getElem? (i := 50) rfl))) (notFace_of_selects (args := #[]) (mvT hZ (hw _ (List.mem_of_getElem? (i := 52) rfl)))) (mvT hZ (hw _ (List.mem_of_getElem? (i := 52) rfl))) (mvT hZ (hw _ (List.mem_of_getElem? (i := 51) rfl))) (by decide) (backOf (W := 0) (own_set l Z a0 hw [] u ev1 pr1 sa t pc k N (fun _ => .null) i1 T31.heap n0 Z0'''' Fp Fc V_t Ov E_sa ne_u_t ge_t hj1 l1) hZ (hw _ (List.mem_of_getElem? (i := 53) rfl)) (hw _ (List.mem_of_getElem? (i := 30) rfl)) (by decide) (by decide)) q32a q32c (g := (mkF m 104 #[.val (.int p0), .val (.int p1), .val (.int p2), .val (.int p3), .val (.int p4), .val (.int p5), .val (.int pc), .val (.int ev1), .val (.int pr1), .val (.int ev2), .val (.int pr2), .val (.int ev3), .val (.int pr3), .val (.ref sa), .val (.ref sb), .val (.ref u), .unset, .unset, .unset, .unset, .unset] [(.ref sa), (.int pr1), (.int ev1), (.ref u)])) rfl (by rw [hml]; rfl) (Steps.refl _) (argsL := [(.int ev1), (.int pr1), (.ref sa)]) (rest := []) (lenOf own_pd5 rfl) rfl (by show 2 * 0 + _ ≤ _; exact Nat.le_of_eq rfl) (hb hby at_104) (fun _ _ => ⟨rfl, rfl, (by decide : ((((0 + 2) + 2) + 1) + 4) + 0 ≤ _), (by decide : ((((0 + 5) + 5) + 8) + 96) + 0 ≤ _)⟩)
      dsimp only [Pt.U, Pt.locs, Pt.cells, Pt.slots] at X32 l32 y32 z32 st32 hQ32
      subst l32 y32 z32
      obtain ⟨rfl, N32q, K32, V_t2⟩ := hQ32
      have N0'''' := Fr.app N0''' N32q
      have O := O.keep K32 ((allS ge_t all0))
      have E_sa := E_sa.keep K32
      have E_sb := E_sb.keep K32
      have E_u := E_u.keep K32
      have Fc := Fc.keep K32 (ninS ne_u_t nin0)
      have Fz := Fz.keep K32 (ninS ne_u_t nin0)
      have Fp := Fp.keep K32 (ninS ne_u_t nin0)
      have Z0''''' := Nat.le_trans Z0'''' K32.1
      refine own_tr (T' := T32) (g' := (mkF m 107 #[.val (.int p0), .val (.int p1), .val (.int p2), .val (.int p3), .val (.int p4), .val (.int p5), .val (.int pc), .val (.int ev1), .val (.int pr1), .val (.int ev2), .val (.int pr2), .val (.int ev3), .val (.int pr3), .val (.ref sa), .val (.ref sb), .val (.ref u), .unset, .unset, .unset, .unset, .unset] [])) st32 ?_
      have V_t := V_t2
      refine own_st (T' := T32) (g' := (mkF m 109 #[.val (.int p0), .val (.int p1), .val (.int p2), .val (.int p3), .val (.int p4), .val (.int p5), .val (.int pc), .val (.int ev1), .val (.int pr1), .val (.int ev2), .val (.int pr2), .val (.int ev3), .val (.int pr3), .val (.ref sa), .val (.ref sb), .val (.ref u), .unset, .unset, .unset, .unset, .unset] [(.ref u)])) (fun _ k => XS.aload X32.here hx rfl (hb hby at_107) rfl rfl k) ?_
      refine own_st (T' := T32) (g' := (mkF m 111 #[.val (.int p0), .val (.int p1), .val (.int p2), .val (.int p3), .val (.int p4), .val (.int p5), .val (.int pc), .val (.int ev1), .val (.int pr1), .val (.int ev2), .val (.int pr2), .val (.int ev3), .val (.int pr3), .val (.ref sa), .val (.ref sb), .val (.ref u), .unset, .unset, .unset, .unset, .unset] [(.int ev2), (.ref u)])) (fun _ k => XS.iload X32.here hx rfl (hb hby at_109) rfl k) ?_
      refine own_st (T' := T32) (g' := (mkF m 113 #[.val (.int p0), .val (.int p1), .val (.int p2), .val (.int p3), .val (.int p4), .val (.int p5), .val (.int pc), .val (.int ev1), .val (.int pr1), .val (.int ev2), .val (.int pr2), .val (.int ev3), .val (.int pr3), .val (.ref sa), .val (.ref sb), .val (.ref u), .unset, .unset, .unset, .unset, .unset] [(.int pr2), (.int ev2), (.ref u)])) (fun _ k => XS.iload X32.here hx rfl (hb hby at_111) rfl k) ?_
      refine own_st (T' := T32) (g' := (mkF m 115 #[.val (.int p0), .val (.int p1), .val (.int p2), .val (.int p3), .val (.int p4), .val (.int p5), .val (.int pc), .val (.int ev1), .val (.int pr1), .val (.int ev2), .val (.int pr2), .val (.int ev3), .val (.int pr3), .val (.ref sa), .val (.ref sb), .val (.ref u), .unset, .unset, .unset, .unset, .unset] [(.ref sb), (.int pr2), (.int ev2), (.ref u)])) (fun _ k => XS.aload X32.here hx rfl (hb hby at_113) rfl rfl k) ?_
      obtain ⟨cq33, kq33, q33a, q33b, q33c⟩ := isOf hZ rfl E_u
      obtain ⟨_, _, ⟨T33, L33, k33, n33⟩, -, X33, ⟨Lc33, hQ33, l33, y33, z33⟩, st33⟩ := X32.virtualBack hx (y := (⟨"com/example/funnelwright/funnelwright/UserEvents", "setProperty", "(IILjava/lang/String;)V"⟩ : MethodName)) (z := (⟨"com/example/funnelwright/funnelwright/UserEvents", "setProperty", "(IILjava/lang/String;)V"⟩ : MethodName)) hown (mvT hZ (hw _ (List.mem_of_getElem? (i := 49) rfl))) (mvT hZ (hw _ (List.mem_of_getElem? (i := 50) rfl))) (notFace_of_selects (args := #[]) (mvT hZ (hw _ (List.mem_of_getElem? (i := 52) rfl)))) (mvT hZ (hw _ (List.mem_of_getElem? (i := 52) rfl))) (mvT hZ (hw _ (List.mem_of_getElem? (i := 51) rfl))) (by decide) (backOf (W := 0) (own_set l Z a0 hw [] u ev2 pr2 sb t pc k N (fun q => if q = i1 then (.ref sa) else (fun _ => .null) q) i2 T32.heap n0 Z0''''' Fp Fc V_t Ov E_sb ne_u_t ge_t hj2 l2) hZ (hw _ (List.mem_of_getElem? (i := 53) rfl)) (hw _ (List.mem_of_getElem? (i := 30) rfl)) (by decide) (by decide)) q33a q33c (g := (mkF m 115 #[.val (.int p0), .val (.int p1), .val (.int p2), .val (.int p3), .val (.int p4), .val (.int p5), .val (.int pc), .val (.int ev1), .val (.int pr1), .val (.int ev2), .val (.int pr2), .val (.int ev3), .val (.int pr3), .val (.ref sa), .val (.ref sb), .val (.ref u), .unset, .unset, .unset, .unset, .unset] [(.ref sb), (.int pr2), (.int ev2), (.ref u)])) rfl (by rw [hml]; rfl) (Steps.refl _) (argsL := [(.int ev2), (.int pr2), (.ref sb)]) (rest := []) (lenOf own_pd5 rfl) rfl (by show 2 * 0 + _ ≤ _; exact Nat.le_of_eq rfl) (hb hby at_115) (fun _ _ => ⟨rfl, rfl, (by decide : (((((0 + 2) + 2) + 1) + 4) + 0) + 0 ≤ _), (by decide : (((((0 + 5) + 5) + 8) + 96) + 0) + 0 ≤ _)⟩)
      dsimp only [Pt.U, Pt.locs, Pt.cells, Pt.slots] at X33 l33 y33 z33 st33 hQ33
      subst l33 y33 z33
      obtain ⟨rfl, N33q, K33, V_t2⟩ := hQ33
      have N0''''' := Fr.app N0'''' N33q
      have O := O.keep K33 ((allS ge_t all0))
      have E_sa := E_sa.keep K33
      have E_sb := E_sb.keep K33
      have E_u := E_u.keep K33
      have Fc := Fc.keep K33 (ninS ne_u_t nin0)
      have Fz := Fz.keep K33 (ninS ne_u_t nin0)
      have Fp := Fp.keep K33 (ninS ne_u_t nin0)
      have Z0'''''' := Nat.le_trans Z0''''' K33.1
      refine own_tr (T' := T33) (g' := (mkF m 118 #[.val (.int p0), .val (.int p1), .val (.int p2), .val (.int p3), .val (.int p4), .val (.int p5), .val (.int pc), .val (.int ev1), .val (.int pr1), .val (.int ev2), .val (.int pr2), .val (.int ev3), .val (.int pr3), .val (.ref sa), .val (.ref sb), .val (.ref u), .unset, .unset, .unset, .unset, .unset] [])) st33 ?_
      have V_t := V_t2
      refine own_st (T' := T33) (g' := (mkF m 120 #[.val (.int p0), .val (.int p1), .val (.int p2), .val (.int p3), .val (.int p4), .val (.int p5), .val (.int pc), .val (.int ev1), .val (.int pr1), .val (.int ev2), .val (.int pr2), .val (.int ev3), .val (.int pr3), .val (.ref sa), .val (.ref sb), .val (.ref u), .unset, .unset, .unset, .unset, .unset] [(.int ev1)])) (fun _ k => XS.iload X33.here hx rfl (hb hby at_118) rfl k) ?_
      refine own_st (T' := T33) (g' := (mkF m 122 #[.val (.int p0), .val (.int p1), .val (.int p2), .val (.int p3), .val (.int p4), .val (.int p5), .val (.int pc), .val (.int ev1), .val (.int pr1), .val (.int ev2), .val (.int pr2), .val (.int ev3), .val (.int pr3), .val (.ref sa), .val (.ref sb), .val (.ref u), .unset, .unset, .unset, .unset, .unset] [(.int ev2), (.int ev1)])) (fun _ k => XS.iload X33.here hx rfl (hb hby at_120) rfl k) ?_
      have J137 : ∀ (z12 : Int32) (hz12 : z12 = if i1 = i2 then 1 else 0), own_Go p e below s (own_law_Q Z p0 p1 p2 p3 p4 p5 cs h0 n0) 32 320 T33 (mkF m 137 #[.val (.int p0), .val (.int p1), .val (.int p2), .val (.int p3), .val (.int p4), .val (.int p5), .val (.int pc), .val (.int ev1), .val (.int pr1), .val (.int ev2), .val (.int pr2), .val (.int ev3), .val (.int pr3), .val (.ref sa), .val (.ref sb), .val (.ref u), .unset, .unset, .unset, .unset, .unset] [(.int z12)]) := by
        intro z12 hz12
        refine own_st (T' := T33) (g' := (mkF m 139 #[.val (.int p0), .val (.int p1), .val (.int p2), .val (.int p3), .val (.int p4), .val (.int p5), .val (.int pc), .val (.int ev1), .val (.int pr1), .val (.int ev2), .val (.int pr2), .val (.int ev3), .val (.int pr3), .val (.ref sa), .val (.ref sb), .val (.ref u), .val (.int z12), .unset, .unset, .unset, .unset] [])) (fun _ k => XS.istore X33.here hx rfl (hb hby at_137) rfl (l' := #[.val (.int p0), .val (.int p1), .val (.int p2), .val (.int p3), .val (.int p4), .val (.int p5), .val (.int pc), .val (.int ev1), .val (.int pr1), .val (.int ev2), .val (.int pr2), .val (.int ev3), .val (.int pr3), .val (.ref sa), .val (.ref sb), .val (.ref u), .val (.int z12), .unset, .unset, .unset, .unset]) rfl k) ?_
        refine own_st (T' := T33) (g' := (mkF m 141 #[.val (.int p0), .val (.int p1), .val (.int p2), .val (.int p3), .val (.int p4), .val (.int p5), .val (.int pc), .val (.int ev1), .val (.int pr1), .val (.int ev2), .val (.int pr2), .val (.int ev3), .val (.int pr3), .val (.ref sa), .val (.ref sb), .val (.ref u), .val (.int z12), .unset, .unset, .unset, .unset] [(.int ev3)])) (fun _ k => XS.iload X33.here hx rfl (hb hby at_139) rfl k) ?_
        refine own_st (T' := T33) (g' := (mkF m 143 #[.val (.int p0), .val (.int p1), .val (.int p2), .val (.int p3), .val (.int p4), .val (.int p5), .val (.int pc), .val (.int ev1), .val (.int pr1), .val (.int ev2), .val (.int pr2), .val (.int ev3), .val (.int pr3), .val (.ref sa), .val (.ref sb), .val (.ref u), .val (.int z12), .unset, .unset, .unset, .unset] [(.int ev2), (.int ev3)])) (fun _ k => XS.iload X33.here hx rfl (hb hby at_141) rfl k) ?_
        have J158 : ∀ (z32 : Int32) (hz32 : z32 = if i3 = i2 then 1 else 0), own_Go p e below s (own_law_Q Z p0 p1 p2 p3 p4 p5 cs h0 n0) 32 320 T33 (mkF m 158 #[.val (.int p0), .val (.int p1), .val (.int p2), .val (.int p3), .val (.int p4), .val (.int p5), .val (.int pc), .val (.int ev1), .val (.int pr1), .val (.int ev2), .val (.int pr2), .val (.int ev3), .val (.int pr3), .val (.ref sa), .val (.ref sb), .val (.ref u), .val (.int z12), .unset, .unset, .unset, .unset] [(.int z32)]) := by
          intro z32 hz32
          refine own_st (T' := T33) (g' := (mkF m 160 #[.val (.int p0), .val (.int p1), .val (.int p2), .val (.int p3), .val (.int p4), .val (.int p5), .val (.int pc), .val (.int ev1), .val (.int pr1), .val (.int ev2), .val (.int pr2), .val (.int ev3), .val (.int pr3), .val (.ref sa), .val (.ref sb), .val (.ref u), .val (.int z12), .val (.int z32), .unset, .unset, .unset] [])) (fun _ k => XS.istore X33.here hx rfl (hb hby at_158) rfl (l' := #[.val (.int p0), .val (.int p1), .val (.int p2), .val (.int p3), .val (.int p4), .val (.int p5), .val (.int pc), .val (.int ev1), .val (.int pr1), .val (.int ev2), .val (.int pr2), .val (.int ev3), .val (.int pr3), .val (.ref sa), .val (.ref sb), .val (.ref u), .val (.int z12), .val (.int z32), .unset, .unset, .unset]) rfl k) ?_
          refine own_st (T' := T33) (g' := (mkF m 162 #[.val (.int p0), .val (.int p1), .val (.int p2), .val (.int p3), .val (.int p4), .val (.int p5), .val (.int pc), .val (.int ev1), .val (.int pr1), .val (.int ev2), .val (.int pr2), .val (.int ev3), .val (.int pr3), .val (.ref sa), .val (.ref sb), .val (.ref u), .val (.int z12), .val (.int z32), .unset, .unset, .unset] [(.int ev3)])) (fun _ k => XS.iload X33.here hx rfl (hb hby at_160) rfl k) ?_
          refine own_st (T' := T33) (g' := (mkF m 164 #[.val (.int p0), .val (.int p1), .val (.int p2), .val (.int p3), .val (.int p4), .val (.int p5), .val (.int pc), .val (.int ev1), .val (.int pr1), .val (.int ev2), .val (.int pr2), .val (.int ev3), .val (.int pr3), .val (.ref sa), .val (.ref sb), .val (.ref u), .val (.int z12), .val (.int z32), .unset, .unset, .unset] [(.int ev1), (.int ev3)])) (fun _ k => XS.iload X33.here hx rfl (hb hby at_162) rfl k) ?_
          have J179 : ∀ (z31 : Int32) (hz31 : z31 = if i3 = i1 then 1 else 0), own_Go p e below s (own_law_Q Z p0 p1 p2 p3 p4 p5 cs h0 n0) 32 320 T33 (mkF m 179 #[.val (.int p0), .val (.int p1), .val (.int p2), .val (.int p3), .val (.int p4), .val (.int p5), .val (.int pc), .val (.int ev1), .val (.int pr1), .val (.int ev2), .val (.int pr2), .val (.int ev3), .val (.int pr3), .val (.ref sa), .val (.ref sb), .val (.ref u), .val (.int z12), .val (.int z32), .unset, .unset, .unset] [(.int z31)]) := by
            intro z31 hz31
            refine own_st (T' := T33) (g' := (mkF m 181 #[.val (.int p0), .val (.int p1), .val (.int p2), .val (.int p3), .val (.int p4), .val (.int p5), .val (.int pc), .val (.int ev1), .val (.int pr1), .val (.int ev2), .val (.int pr2), .val (.int ev3), .val (.int pr3), .val (.ref sa), .val (.ref sb), .val (.ref u), .val (.int z12), .val (.int z32), .val (.int z31), .unset, .unset] [])) (fun _ k => XS.istore X33.here hx rfl (hb hby at_179) rfl (l' := #[.val (.int p0), .val (.int p1), .val (.int p2), .val (.int p3), .val (.int p4), .val (.int p5), .val (.int pc), .val (.int ev1), .val (.int pr1), .val (.int ev2), .val (.int pr2), .val (.int ev3), .val (.int pr3), .val (.ref sa), .val (.ref sb), .val (.ref u), .val (.int z12), .val (.int z32), .val (.int z31), .unset, .unset]) rfl k) ?_
            refine own_st (T' := T33) (g' := (mkF m 183 #[.val (.int p0), .val (.int p1), .val (.int p2), .val (.int p3), .val (.int p4), .val (.int p5), .val (.int pc), .val (.int ev1), .val (.int pr1), .val (.int ev2), .val (.int pr2), .val (.int ev3), .val (.int pr3), .val (.ref sa), .val (.ref sb), .val (.ref u), .val (.int z12), .val (.int z32), .val (.int z31), .unset, .unset] [(.int z12)])) (fun _ k => XS.iload X33.here hx rfl (hb hby at_181) rfl k) ?_
            have J193 : ∀ (e1 : Value) (hR1 : e1.isRef = true) (he1 : e1 = if i1 = i2 then (.ref sb) else (.ref sa)), own_Go p e below s (own_law_Q Z p0 p1 p2 p3 p4 p5 cs h0 n0) 32 320 T33 (mkF m 193 #[.val (.int p0), .val (.int p1), .val (.int p2), .val (.int p3), .val (.int p4), .val (.int p5), .val (.int pc), .val (.int ev1), .val (.int pr1), .val (.int ev2), .val (.int pr2), .val (.int ev3), .val (.int pr3), .val (.ref sa), .val (.ref sb), .val (.ref u), .val (.int z12), .val (.int z32), .val (.int z31), .unset, .unset] [e1]) := by
              intro e1 hR1 he1
              refine own_st (T' := T33) (g' := (mkF m 195 #[.val (.int p0), .val (.int p1), .val (.int p2), .val (.int p3), .val (.int p4), .val (.int p5), .val (.int pc), .val (.int ev1), .val (.int pr1), .val (.int ev2), .val (.int pr2), .val (.int ev3), .val (.int pr3), .val (.ref sa), .val (.ref sb), .val (.ref u), .val (.int z12), .val (.int z32), .val (.int z31), .val e1, .unset] [])) (fun _ k => XS.astore X33.here hx rfl (hb hby at_193) rfl hR1 (l' := #[.val (.int p0), .val (.int p1), .val (.int p2), .val (.int p3), .val (.int p4), .val (.int p5), .val (.int pc), .val (.int ev1), .val (.int pr1), .val (.int ev2), .val (.int pr2), .val (.int ev3), .val (.int pr3), .val (.ref sa), .val (.ref sb), .val (.ref u), .val (.int z12), .val (.int z32), .val (.int z31), .val e1, .unset]) (own_store1 hR1 rfl (Or.inl rfl)) k) ?_
              refine own_st (T' := T33) (g' := (mkF m 197 #[.val (.int p0), .val (.int p1), .val (.int p2), .val (.int p3), .val (.int p4), .val (.int p5), .val (.int pc), .val (.int ev1), .val (.int pr1), .val (.int ev2), .val (.int pr2), .val (.int ev3), .val (.int pr3), .val (.ref sa), .val (.ref sb), .val (.ref u), .val (.int z12), .val (.int z32), .val (.int z31), .val e1, .unset] [(.int z32)])) (fun _ k => XS.iload X33.here hx rfl (hb hby at_195) rfl k) ?_
              have J216 : ∀ (e3 : Value) (hR3 : e3.isRef = true) (he3 : e3 = if i3 = i2 then (.ref sb) else if i3 = i1 then (.ref sa) else .null), own_Go p e below s (own_law_Q Z p0 p1 p2 p3 p4 p5 cs h0 n0) 32 320 T33 (mkF m 216 #[.val (.int p0), .val (.int p1), .val (.int p2), .val (.int p3), .val (.int p4), .val (.int p5), .val (.int pc), .val (.int ev1), .val (.int pr1), .val (.int ev2), .val (.int pr2), .val (.int ev3), .val (.int pr3), .val (.ref sa), .val (.ref sb), .val (.ref u), .val (.int z12), .val (.int z32), .val (.int z31), .val e1, .unset] [e3]) := by
                intro e3 hR3 he3
                refine own_st (T' := T33) (g' := (mkF m 218 #[.val (.int p0), .val (.int p1), .val (.int p2), .val (.int p3), .val (.int p4), .val (.int p5), .val (.int pc), .val (.int ev1), .val (.int pr1), .val (.int ev2), .val (.int pr2), .val (.int ev3), .val (.int pr3), .val (.ref sa), .val (.ref sb), .val (.ref u), .val (.int z12), .val (.int z32), .val (.int z31), .val e1, .val e3] [])) (fun _ k => XS.astore X33.here hx rfl (hb hby at_216) rfl hR3 (l' := #[.val (.int p0), .val (.int p1), .val (.int p2), .val (.int p3), .val (.int p4), .val (.int p5), .val (.int pc), .val (.int ev1), .val (.int pr1), .val (.int ev2), .val (.int pr2), .val (.int ev3), .val (.int pr3), .val (.ref sa), .val (.ref sb), .val (.ref u), .val (.int z12), .val (.int z32), .val (.int z31), .val e1, .val e3]) (own_store1 hR3 rfl (Or.inl rfl)) k) ?_
                refine own_st (T' := T33) (g' := (mkF m 220 #[.val (.int p0), .val (.int p1), .val (.int p2), .val (.int p3), .val (.int p4), .val (.int p5), .val (.int pc), .val (.int ev1), .val (.int pr1), .val (.int ev2), .val (.int pr2), .val (.int ev3), .val (.int pr3), .val (.ref sa), .val (.ref sb), .val (.ref u), .val (.int z12), .val (.int z32), .val (.int z31), .val e1, .val e3] [(.ref u)])) (fun _ k => XS.aload X33.here hx rfl (hb hby at_218) rfl rfl k) ?_
                refine own_st (T' := T33) (g' := (mkF m 222 #[.val (.int p0), .val (.int p1), .val (.int p2), .val (.int p3), .val (.int p4), .val (.int p5), .val (.int pc), .val (.int ev1), .val (.int pr1), .val (.int ev2), .val (.int pr2), .val (.int ev3), .val (.int pr3), .val (.ref sa), .val (.ref sb), .val (.ref u), .val (.int z12), .val (.int z32), .val (.int z31), .val e1, .val e3] [(.int ev1), (.ref u)])) (fun _ k => XS.iload X33.here hx rfl (hb hby at_220) rfl k) ?_
                refine own_st (T' := T33) (g' := (mkF m 224 #[.val (.int p0), .val (.int p1), .val (.int p2), .val (.int p3), .val (.int p4), .val (.int p5), .val (.int pc), .val (.int ev1), .val (.int pr1), .val (.int ev2), .val (.int pr2), .val (.int ev3), .val (.int pr3), .val (.ref sa), .val (.ref sb), .val (.ref u), .val (.int z12), .val (.int z32), .val (.int z31), .val e1, .val e3] [(.int pr1), (.int ev1), (.ref u)])) (fun _ k => XS.iload X33.here hx rfl (hb hby at_222) rfl k) ?_
                obtain ⟨cq34, kq34, q34a, q34b, q34c⟩ := isOf hZ rfl E_u
                obtain ⟨_, _, ⟨T34, L34, k34, n34⟩, -, X34, ⟨Lc34, hQ34, l34, y34, z34⟩, st34⟩ := X33.virtualBack hx (y := (⟨"com/example/funnelwright/funnelwright/UserEvents", "property", "(II)Ljava/lang/String;"⟩ : MethodName)) (z := (⟨"com/example/funnelwright/funnelwright/UserEvents", "property", "(II)Ljava/lang/String;"⟩ : MethodName)) hown (mvT hZ (hw _ (List.mem_of_getElem? (i := 54) rfl))) (mvT hZ (hw _ (List.mem_of_getElem? (i := 55) rfl))) (notFace_of_selects (args := #[]) (mvT hZ (hw _ (List.mem_of_getElem? (i := 57) rfl)))) (mvT hZ (hw _ (List.mem_of_getElem? (i := 57) rfl))) (mvT hZ (hw _ (List.mem_of_getElem? (i := 56) rfl))) (by decide) (backOf (W := 0) (own_prop l Z a0 hw [] u ev1 pr1 t pc k N (fun q => if q = i2 then (.ref sb) else (fun q => if q = i1 then (.ref sa) else (fun _ => .null) q) q) i1 e1 T33.heap n0 Z0'''''' Fp Fc V_t hj1 l1 (by rw [he1]; simp) hR1) hZ (hw _ (List.mem_of_getElem? (i := 58) rfl)) (hw _ (List.mem_of_getElem? (i := 30) rfl)) (by decide) (by decide)) q34a q34c (g := (mkF m 224 #[.val (.int p0), .val (.int p1), .val (.int p2), .val (.int p3), .val (.int p4), .val (.int p5), .val (.int pc), .val (.int ev1), .val (.int pr1), .val (.int ev2), .val (.int pr2), .val (.int ev3), .val (.int pr3), .val (.ref sa), .val (.ref sb), .val (.ref u), .val (.int z12), .val (.int z32), .val (.int z31), .val e1, .val e3] [(.int pr1), (.int ev1), (.ref u)])) rfl (by rw [hml]; rfl) (Steps.refl _) (argsL := [(.int ev1), (.int pr1)]) (rest := []) (lenOf own_pd6 rfl) rfl (by show 2 * 0 + _ ≤ _; exact Nat.le_of_eq rfl) (hb hby at_224) (fun _ _ => ⟨rfl, rfl, (by decide : ((((((0 + 2) + 2) + 1) + 4) + 0) + 0) + 0 ≤ _), (by decide : ((((((0 + 5) + 5) + 8) + 96) + 0) + 0) + 0 ≤ _)⟩)
                dsimp only [Pt.U, Pt.locs, Pt.cells, Pt.slots] at X34 l34 y34 z34 st34 hQ34
                subst l34 y34 z34
                obtain ⟨rfl, N34q, e34⟩ := hQ34
                have N0'''''' := Fr.app N0''''' N34q
                refine own_tr (T' := T34) (g' := (mkF m 227 #[.val (.int p0), .val (.int p1), .val (.int p2), .val (.int p3), .val (.int p4), .val (.int p5), .val (.int pc), .val (.int ev1), .val (.int pr1), .val (.int ev2), .val (.int pr2), .val (.int ev3), .val (.int pr3), .val (.ref sa), .val (.ref sb), .val (.ref u), .val (.int z12), .val (.int z32), .val (.int z31), .val e1, .val e3] [e1])) st34 ?_
                refine own_st (T' := T34) (g' := (mkF m 229 #[.val (.int p0), .val (.int p1), .val (.int p2), .val (.int p3), .val (.int p4), .val (.int p5), .val (.int pc), .val (.int ev1), .val (.int pr1), .val (.int ev2), .val (.int pr2), .val (.int ev3), .val (.int pr3), .val (.ref sa), .val (.ref sb), .val (.ref u), .val (.int z12), .val (.int z32), .val (.int z31), .val e1, .val e3] [e1, e1])) (fun _ k => XS.aload X34.here hx rfl (hb hby at_227) rfl hR1 k) ?_
                refine own_st (T' := T34) (g' := (mkF m 232 #[.val (.int p0), .val (.int p1), .val (.int p2), .val (.int p3), .val (.int p4), .val (.int p5), .val (.int pc), .val (.int ev1), .val (.int pr1), .val (.int ev2), .val (.int pr2), .val (.int ev3), .val (.int pr3), .val (.ref sa), .val (.ref sb), .val (.ref u), .val (.int z12), .val (.int z32), .val (.int z31), .val e1, .val e3] [])) (fun _ k => Jvm.Free.XT.acmpNo X34.here hx rfl (hb hby at_229) rfl hR1 hR1 (Jvm.Free.XT.aa_ne_f rfl) k) ?_
                refine own_st (T' := T34) (g' := (mkF m 234 #[.val (.int p0), .val (.int p1), .val (.int p2), .val (.int p3), .val (.int p4), .val (.int p5), .val (.int pc), .val (.int ev1), .val (.int pr1), .val (.int ev2), .val (.int pr2), .val (.int ev3), .val (.int pr3), .val (.ref sa), .val (.ref sb), .val (.ref u), .val (.int z12), .val (.int z32), .val (.int z31), .val e1, .val e3] [(.ref u)])) (fun _ k => XS.aload X34.here hx rfl (hb hby at_232) rfl rfl k) ?_
                refine own_st (T' := T34) (g' := (mkF m 236 #[.val (.int p0), .val (.int p1), .val (.int p2), .val (.int p3), .val (.int p4), .val (.int p5), .val (.int pc), .val (.int ev1), .val (.int pr1), .val (.int ev2), .val (.int pr2), .val (.int ev3), .val (.int pr3), .val (.ref sa), .val (.ref sb), .val (.ref u), .val (.int z12), .val (.int z32), .val (.int z31), .val e1, .val e3] [(.int ev2), (.ref u)])) (fun _ k => XS.iload X34.here hx rfl (hb hby at_234) rfl k) ?_
                refine own_st (T' := T34) (g' := (mkF m 238 #[.val (.int p0), .val (.int p1), .val (.int p2), .val (.int p3), .val (.int p4), .val (.int p5), .val (.int pc), .val (.int ev1), .val (.int pr1), .val (.int ev2), .val (.int pr2), .val (.int ev3), .val (.int pr3), .val (.ref sa), .val (.ref sb), .val (.ref u), .val (.int z12), .val (.int z32), .val (.int z31), .val e1, .val e3] [(.int pr2), (.int ev2), (.ref u)])) (fun _ k => XS.iload X34.here hx rfl (hb hby at_236) rfl k) ?_
                obtain ⟨cq35, kq35, q35a, q35b, q35c⟩ := isOf hZ e34 E_u
                obtain ⟨_, _, ⟨T35, L35, k35, n35⟩, -, X35, ⟨Lc35, hQ35, l35, y35, z35⟩, st35⟩ := X34.virtualBack hx (y := (⟨"com/example/funnelwright/funnelwright/UserEvents", "property", "(II)Ljava/lang/String;"⟩ : MethodName)) (z := (⟨"com/example/funnelwright/funnelwright/UserEvents", "property", "(II)Ljava/lang/String;"⟩ : MethodName)) hown (mvT hZ (hw _ (List.mem_of_getElem? (i := 54) rfl))) (mvT hZ (hw _ (List.mem_of_getElem? (i := 55) rfl))) (notFace_of_selects (args := #[]) (mvT hZ (hw _ (List.mem_of_getElem? (i := 57) rfl)))) (mvT hZ (hw _ (List.mem_of_getElem? (i := 57) rfl))) (mvT hZ (hw _ (List.mem_of_getElem? (i := 56) rfl))) (by decide) (backOf (W := 0) (own_prop l Z a0 hw [] u ev2 pr2 t pc k N (fun q => if q = i2 then (.ref sb) else (fun q => if q = i1 then (.ref sa) else (fun _ => .null) q) q) i2 (.ref sb) T33.heap n0 Z0'''''' Fp Fc V_t hj2 l2 (by simp) rfl) hZ (hw _ (List.mem_of_getElem? (i := 58) rfl)) (hw _ (List.mem_of_getElem? (i := 30) rfl)) (by decide) (by decide)) q35a q35c (g := (mkF m 238 #[.val (.int p0), .val (.int p1), .val (.int p2), .val (.int p3), .val (.int p4), .val (.int p5), .val (.int pc), .val (.int ev1), .val (.int pr1), .val (.int ev2), .val (.int pr2), .val (.int ev3), .val (.int pr3), .val (.ref sa), .val (.ref sb), .val (.ref u), .val (.int z12), .val (.int z32), .val (.int z31), .val e1, .val e3] [(.int pr2), (.int ev2), (.ref u)])) rfl (by rw [hml]; rfl) (Steps.refl _) (argsL := [(.int ev2), (.int pr2)]) (rest := []) (lenOf own_pd6 rfl) rfl (by show 2 * 0 + _ ≤ _; exact Nat.le_of_eq rfl) (hb hby at_238) (fun _ _ => ⟨rfl, e34, (by decide : (((((((0 + 2) + 2) + 1) + 4) + 0) + 0) + 0) + 0 ≤ _), (by decide : (((((((0 + 5) + 5) + 8) + 96) + 0) + 0) + 0) + 0 ≤ _)⟩)
                dsimp only [Pt.U, Pt.locs, Pt.cells, Pt.slots] at X35 l35 y35 z35 st35 hQ35
                subst l35 y35 z35
                obtain ⟨rfl, N35q, e35⟩ := hQ35
                have N0''''''' := Fr.app N0'''''' N35q
                refine own_tr (T' := T35) (g' := (mkF m 241 #[.val (.int p0), .val (.int p1), .val (.int p2), .val (.int p3), .val (.int p4), .val (.int p5), .val (.int pc), .val (.int ev1), .val (.int pr1), .val (.int ev2), .val (.int pr2), .val (.int ev3), .val (.int pr3), .val (.ref sa), .val (.ref sb), .val (.ref u), .val (.int z12), .val (.int z32), .val (.int z31), .val e1, .val e3] [(.ref sb)])) st35 ?_
                refine own_st (T' := T35) (g' := (mkF m 243 #[.val (.int p0), .val (.int p1), .val (.int p2), .val (.int p3), .val (.int p4), .val (.int p5), .val (.int pc), .val (.int ev1), .val (.int pr1), .val (.int ev2), .val (.int pr2), .val (.int ev3), .val (.int pr3), .val (.ref sa), .val (.ref sb), .val (.ref u), .val (.int z12), .val (.int z32), .val (.int z31), .val e1, .val e3] [(.ref sb), (.ref sb)])) (fun _ k => XS.aload X35.here hx rfl (hb hby at_241) rfl rfl k) ?_
                refine own_st (T' := T35) (g' := (mkF m 246 #[.val (.int p0), .val (.int p1), .val (.int p2), .val (.int p3), .val (.int p4), .val (.int p5), .val (.int pc), .val (.int ev1), .val (.int pr1), .val (.int ev2), .val (.int pr2), .val (.int ev3), .val (.int pr3), .val (.ref sa), .val (.ref sb), .val (.ref u), .val (.int z12), .val (.int z32), .val (.int z31), .val e1, .val e3] [])) (fun _ k => Jvm.Free.XT.acmpNo X35.here hx rfl (hb hby at_243) rfl rfl rfl (Jvm.Free.XT.aa_ne_f rfl) k) ?_
                refine own_st (T' := T35) (g' := (mkF m 248 #[.val (.int p0), .val (.int p1), .val (.int p2), .val (.int p3), .val (.int p4), .val (.int p5), .val (.int pc), .val (.int ev1), .val (.int pr1), .val (.int ev2), .val (.int pr2), .val (.int ev3), .val (.int pr3), .val (.ref sa), .val (.ref sb), .val (.ref u), .val (.int z12), .val (.int z32), .val (.int z31), .val e1, .val e3] [(.ref u)])) (fun _ k => XS.aload X35.here hx rfl (hb hby at_246) rfl rfl k) ?_
                refine own_st (T' := T35) (g' := (mkF m 250 #[.val (.int p0), .val (.int p1), .val (.int p2), .val (.int p3), .val (.int p4), .val (.int p5), .val (.int pc), .val (.int ev1), .val (.int pr1), .val (.int ev2), .val (.int pr2), .val (.int ev3), .val (.int pr3), .val (.ref sa), .val (.ref sb), .val (.ref u), .val (.int z12), .val (.int z32), .val (.int z31), .val e1, .val e3] [(.int ev3), (.ref u)])) (fun _ k => XS.iload X35.here hx rfl (hb hby at_248) rfl k) ?_
                refine own_st (T' := T35) (g' := (mkF m 252 #[.val (.int p0), .val (.int p1), .val (.int p2), .val (.int p3), .val (.int p4), .val (.int p5), .val (.int pc), .val (.int ev1), .val (.int pr1), .val (.int ev2), .val (.int pr2), .val (.int ev3), .val (.int pr3), .val (.ref sa), .val (.ref sb), .val (.ref u), .val (.int z12), .val (.int z32), .val (.int z31), .val e1, .val e3] [(.int pr3), (.int ev3), (.ref u)])) (fun _ k => XS.iload X35.here hx rfl (hb hby at_250) rfl k) ?_
                obtain ⟨cq36, kq36, q36a, q36b, q36c⟩ := isOf hZ e35 E_u
                obtain ⟨_, _, ⟨T36, L36, k36, n36⟩, -, X36, ⟨Lc36, hQ36, l36, y36, z36⟩, st36⟩ := X35.virtualBack hx (y := (⟨"com/example/funnelwright/funnelwright/UserEvents", "property", "(II)Ljava/lang/String;"⟩ : MethodName)) (z := (⟨"com/example/funnelwright/funnelwright/UserEvents", "property", "(II)Ljava/lang/String;"⟩ : MethodName)) hown (mvT hZ (hw _ (List.mem_of_getElem? (i := 54) rfl))) (mvT hZ (hw _ (List.mem_of_getElem? (i := 55) rfl))) (notFace_of_selects (args := #[]) (mvT hZ (hw _ (List.mem_of_getElem? (i := 57) rfl)))) (mvT hZ (hw _ (List.mem_of_getElem? (i := 57) rfl))) (mvT hZ (hw _ (List.mem_of_getElem? (i := 56) rfl))) (by decide) (backOf (W := 0) (own_prop l Z a0 hw [] u ev3 pr3 t pc k N (fun q => if q = i2 then (.ref sb) else (fun q => if q = i1 then (.ref sa) else (fun _ => .null) q) q) i3 e3 T33.heap n0 Z0'''''' Fp Fc V_t hj3 l3 (by rw [he3]) hR3) hZ (hw _ (List.mem_of_getElem? (i := 58) rfl)) (hw _ (List.mem_of_getElem? (i := 30) rfl)) (by decide) (by decide)) q36a q36c (g := (mkF m 252 #[.val (.int p0), .val (.int p1), .val (.int p2), .val (.int p3), .val (.int p4), .val (.int p5), .val (.int pc), .val (.int ev1), .val (.int pr1), .val (.int ev2), .val (.int pr2), .val (.int ev3), .val (.int pr3), .val (.ref sa), .val (.ref sb), .val (.ref u), .val (.int z12), .val (.int z32), .val (.int z31), .val e1, .val e3] [(.int pr3), (.int ev3), (.ref u)])) rfl (by rw [hml]; rfl) (Steps.refl _) (argsL := [(.int ev3), (.int pr3)]) (rest := []) (lenOf own_pd6 rfl) rfl (by show 2 * 0 + _ ≤ _; exact Nat.le_of_eq rfl) (hb hby at_252) (fun _ _ => ⟨rfl, e35, (by decide : ((((((((0 + 2) + 2) + 1) + 4) + 0) + 0) + 0) + 0) + 0 ≤ _), (by decide : ((((((((0 + 5) + 5) + 8) + 96) + 0) + 0) + 0) + 0) + 0 ≤ _)⟩)
                dsimp only [Pt.U, Pt.locs, Pt.cells, Pt.slots] at X36 l36 y36 z36 st36 hQ36
                subst l36 y36 z36
                obtain ⟨rfl, N36q, e36⟩ := hQ36
                have N0'''''''' := Fr.app N0''''''' N36q
                refine own_tr (T' := T36) (g' := (mkF m 255 #[.val (.int p0), .val (.int p1), .val (.int p2), .val (.int p3), .val (.int p4), .val (.int p5), .val (.int pc), .val (.int ev1), .val (.int pr1), .val (.int ev2), .val (.int pr2), .val (.int ev3), .val (.int pr3), .val (.ref sa), .val (.ref sb), .val (.ref u), .val (.int z12), .val (.int z32), .val (.int z31), .val e1, .val e3] [e3])) st36 ?_
                refine own_st (T' := T36) (g' := (mkF m 257 #[.val (.int p0), .val (.int p1), .val (.int p2), .val (.int p3), .val (.int p4), .val (.int p5), .val (.int pc), .val (.int ev1), .val (.int pr1), .val (.int ev2), .val (.int pr2), .val (.int ev3), .val (.int pr3), .val (.ref sa), .val (.ref sb), .val (.ref u), .val (.int z12), .val (.int z32), .val (.int z31), .val e1, .val e3] [e3, e3])) (fun _ k => XS.aload X36.here hx rfl (hb hby at_255) rfl hR3 k) ?_
                refine own_st (T' := T36) (g' := (mkF m 260 #[.val (.int p0), .val (.int p1), .val (.int p2), .val (.int p3), .val (.int p4), .val (.int p5), .val (.int pc), .val (.int ev1), .val (.int pr1), .val (.int ev2), .val (.int pr2), .val (.int ev3), .val (.int pr3), .val (.ref sa), .val (.ref sb), .val (.ref u), .val (.int z12), .val (.int z32), .val (.int z31), .val e1, .val e3] [])) (fun _ k => Jvm.Free.XT.acmpNo X36.here hx rfl (hb hby at_257) rfl hR3 hR3 (Jvm.Free.XT.aa_ne_f rfl) k) ?_
                refine own_st (T' := T36) (g' := (mkF m 262 #[.val (.int p0), .val (.int p1), .val (.int p2), .val (.int p3), .val (.int p4), .val (.int p5), .val (.int pc), .val (.int ev1), .val (.int pr1), .val (.int ev2), .val (.int pr2), .val (.int ev3), .val (.int pr3), .val (.ref sa), .val (.ref sb), .val (.ref u), .val (.int z12), .val (.int z32), .val (.int z31), .val e1, .val e3] [(.ref u)])) (fun _ k => XS.aload X36.here hx rfl (hb hby at_260) rfl rfl k) ?_
                obtain ⟨cq37, kq37, q37a, q37b, q37c⟩ := isOf hZ e36 E_u
                obtain ⟨_, _, ⟨T37, L37, k37, n37⟩, -, X37, ⟨Lc37, hQ37, l37, y37, z37⟩, st37⟩ := X36.virtualBack hx (y := (⟨"com/example/funnelwright/funnelwright/UserEvents", "size", "()I"⟩ : MethodName)) (z := (⟨"com/example/funnelwright/funnelwright/UserEvents", "size", "()I"⟩ : MethodName)) hown (mvT hZ (hw _ (List.mem_of_getElem? (i := 59) rfl))) (mvT hZ (hw _ (List.mem_of_getElem? (i := 60) rfl))) (notFace_of_selects (args := #[]) (mvT hZ (hw _ (List.mem_of_getElem? (i := 62) rfl)))) (mvT hZ (hw _ (List.mem_of_getElem? (i := 62) rfl))) (mvT hZ (hw _ (List.mem_of_getElem? (i := 61) rfl))) (by decide) (backOf (W := 0) (own_size l Z a0 hw [] u (0 : Int32) T33.heap n0 Z0'''''' Fz) hZ (hw _ (List.mem_of_getElem? (i := 63) rfl)) (hw _ (List.mem_of_getElem? (i := 30) rfl)) (by decide) (by decide)) q37a q37c (g := (mkF m 262 #[.val (.int p0), .val (.int p1), .val (.int p2), .val (.int p3), .val (.int p4), .val (.int p5), .val (.int pc), .val (.int ev1), .val (.int pr1), .val (.int ev2), .val (.int pr2), .val (.int ev3), .val (.int pr3), .val (.ref sa), .val (.ref sb), .val (.ref u), .val (.int z12), .val (.int z32), .val (.int z31), .val e1, .val e3] [(.ref u)])) rfl (by rw [hml]; rfl) (Steps.refl _) (argsL := []) (rest := []) (lenOf own_pd7 rfl) rfl (by show 2 * 0 + _ ≤ _; exact Nat.le_of_eq rfl) (hb hby at_262) (fun _ _ => ⟨rfl, e36, (by decide : (((((((((0 + 2) + 2) + 1) + 4) + 0) + 0) + 0) + 0) + 0) + 0 ≤ _), (by decide : (((((((((0 + 5) + 5) + 8) + 96) + 0) + 0) + 0) + 0) + 0) + 0 ≤ _)⟩)
                dsimp only [Pt.U, Pt.locs, Pt.cells, Pt.slots] at X37 l37 y37 z37 st37 hQ37
                subst l37 y37 z37
                obtain ⟨rfl, N37q, e37⟩ := hQ37
                have N0''''''''' := Fr.app N0'''''''' N37q
                refine own_tr (T' := T37) (g' := (mkF m 265 #[.val (.int p0), .val (.int p1), .val (.int p2), .val (.int p3), .val (.int p4), .val (.int p5), .val (.int pc), .val (.int ev1), .val (.int pr1), .val (.int ev2), .val (.int pr2), .val (.int ev3), .val (.int pr3), .val (.ref sa), .val (.ref sb), .val (.ref u), .val (.int z12), .val (.int z32), .val (.int z31), .val e1, .val e3] [(.int (0 : Int32))])) st37 ?_
                refine own_st (T' := T37) (g' := (mkF m 268 #[.val (.int p0), .val (.int p1), .val (.int p2), .val (.int p3), .val (.int p4), .val (.int p5), .val (.int pc), .val (.int ev1), .val (.int pr1), .val (.int ev2), .val (.int pr2), .val (.int ev3), .val (.int pr3), .val (.ref sa), .val (.ref sb), .val (.ref u), .val (.int z12), .val (.int z32), .val (.int z31), .val e1, .val e3] [])) (fun _ k => XS.ifNo X37.here hx rfl (hb hby at_265) rfl (Jvm.Free.XT.i0_ne_f rfl) k) ?_
                refine own_st (T' := T37) (g' := (mkF m 269 #[.val (.int p0), .val (.int p1), .val (.int p2), .val (.int p3), .val (.int p4), .val (.int p5), .val (.int pc), .val (.int ev1), .val (.int pr1), .val (.int ev2), .val (.int pr2), .val (.int ev3), .val (.int pr3), .val (.ref sa), .val (.ref sb), .val (.ref u), .val (.int z12), .val (.int z32), .val (.int z31), .val e1, .val e3] [(.int (1 : Int32))])) (fun _ k => XS.iconst X37.here hx rfl (hb hby at_268) k) ?_
                refine own_st (T' := T37) (g' := (mkF m 273 #[.val (.int p0), .val (.int p1), .val (.int p2), .val (.int p3), .val (.int p4), .val (.int p5), .val (.int pc), .val (.int ev1), .val (.int pr1), .val (.int ev2), .val (.int pr2), .val (.int ev3), .val (.int pr3), .val (.ref sa), .val (.ref sb), .val (.ref u), .val (.int z12), .val (.int z32), .val (.int z31), .val e1, .val e3] [(.int (1 : Int32))])) (fun _ k => XS.goto X37.here hx rfl (pc0 := 269) (pc' := 273) rfl (hb hby at_269) (by decide) (by decide) k) ?_
                exact own_retN X37 hx Bd.returns Bd.notSynchronized e37 (by simp) (hb hby at_273) ⟨rfl, N0'''''''''⟩ (by decide) (by decide)
              by_cases q32 : z32 = (0 : Int32)
              · refine own_st (T' := T33) (g' := (mkF m 205 #[.val (.int p0), .val (.int p1), .val (.int p2), .val (.int p3), .val (.int p4), .val (.int p5), .val (.int pc), .val (.int ev1), .val (.int pr1), .val (.int ev2), .val (.int pr2), .val (.int ev3), .val (.int pr3), .val (.ref sa), .val (.ref sb), .val (.ref u), .val (.int z12), .val (.int z32), .val (.int z31), .val e1, .unset] [])) (fun _ k => XS.ifYes X33.here hx rfl (pc0 := 197) (pc' := 205) rfl (hb hby at_197) rfl (Jvm.Free.XT.i0_eq_t q32) (by decide) (by decide) k) ?_
                refine own_st (T' := T33) (g' := (mkF m 207 #[.val (.int p0), .val (.int p1), .val (.int p2), .val (.int p3), .val (.int p4), .val (.int p5), .val (.int pc), .val (.int ev1), .val (.int pr1), .val (.int ev2), .val (.int pr2), .val (.int ev3), .val (.int pr3), .val (.ref sa), .val (.ref sb), .val (.ref u), .val (.int z12), .val (.int z32), .val (.int z31), .val e1, .unset] [(.int z31)])) (fun _ k => XS.iload X33.here hx rfl (hb hby at_205) rfl k) ?_
                by_cases q31 : z31 = (0 : Int32)
                · refine own_st (T' := T33) (g' := (mkF m 215 #[.val (.int p0), .val (.int p1), .val (.int p2), .val (.int p3), .val (.int p4), .val (.int p5), .val (.int pc), .val (.int ev1), .val (.int pr1), .val (.int ev2), .val (.int pr2), .val (.int ev3), .val (.int pr3), .val (.ref sa), .val (.ref sb), .val (.ref u), .val (.int z12), .val (.int z32), .val (.int z31), .val e1, .unset] [])) (fun _ k => XS.ifYes X33.here hx rfl (pc0 := 207) (pc' := 215) rfl (hb hby at_207) rfl (Jvm.Free.XT.i0_eq_t q31) (by decide) (by decide) k) ?_
                  refine own_st (T' := T33) (g' := (mkF m 216 #[.val (.int p0), .val (.int p1), .val (.int p2), .val (.int p3), .val (.int p4), .val (.int p5), .val (.int pc), .val (.int ev1), .val (.int pr1), .val (.int ev2), .val (.int pr2), .val (.int ev3), .val (.int pr3), .val (.ref sa), .val (.ref sb), .val (.ref u), .val (.int z12), .val (.int z32), .val (.int z31), .val e1, .unset] [.null])) (fun _ k => XS.aconstNull X33.here hx rfl (hb hby at_215) k) ?_
                  exact J216 _ rfl (by subst hz32 hz31; by_cases u1 : i3 = i2 <;> by_cases u2 : i3 = i1 <;> simp_all)
                · refine own_st (T' := T33) (g' := (mkF m 210 #[.val (.int p0), .val (.int p1), .val (.int p2), .val (.int p3), .val (.int p4), .val (.int p5), .val (.int pc), .val (.int ev1), .val (.int pr1), .val (.int ev2), .val (.int pr2), .val (.int ev3), .val (.int pr3), .val (.ref sa), .val (.ref sb), .val (.ref u), .val (.int z12), .val (.int z32), .val (.int z31), .val e1, .unset] [])) (fun _ k => XS.ifNo X33.here hx rfl (hb hby at_207) rfl (Jvm.Free.XT.i0_eq_f q31) k) ?_
                  refine own_st (T' := T33) (g' := (mkF m 212 #[.val (.int p0), .val (.int p1), .val (.int p2), .val (.int p3), .val (.int p4), .val (.int p5), .val (.int pc), .val (.int ev1), .val (.int pr1), .val (.int ev2), .val (.int pr2), .val (.int ev3), .val (.int pr3), .val (.ref sa), .val (.ref sb), .val (.ref u), .val (.int z12), .val (.int z32), .val (.int z31), .val e1, .unset] [(.ref sa)])) (fun _ k => XS.aload X33.here hx rfl (hb hby at_210) rfl rfl k) ?_
                  refine own_st (T' := T33) (g' := (mkF m 216 #[.val (.int p0), .val (.int p1), .val (.int p2), .val (.int p3), .val (.int p4), .val (.int p5), .val (.int pc), .val (.int ev1), .val (.int pr1), .val (.int ev2), .val (.int pr2), .val (.int ev3), .val (.int pr3), .val (.ref sa), .val (.ref sb), .val (.ref u), .val (.int z12), .val (.int z32), .val (.int z31), .val e1, .unset] [(.ref sa)])) (fun _ k => XS.goto X33.here hx rfl (pc0 := 212) (pc' := 216) rfl (hb hby at_212) (by decide) (by decide) k) ?_
                  exact J216 _ rfl (by subst hz32 hz31; by_cases u1 : i3 = i2 <;> by_cases u2 : i3 = i1 <;> simp_all)
              · refine own_st (T' := T33) (g' := (mkF m 200 #[.val (.int p0), .val (.int p1), .val (.int p2), .val (.int p3), .val (.int p4), .val (.int p5), .val (.int pc), .val (.int ev1), .val (.int pr1), .val (.int ev2), .val (.int pr2), .val (.int ev3), .val (.int pr3), .val (.ref sa), .val (.ref sb), .val (.ref u), .val (.int z12), .val (.int z32), .val (.int z31), .val e1, .unset] [])) (fun _ k => XS.ifNo X33.here hx rfl (hb hby at_197) rfl (Jvm.Free.XT.i0_eq_f q32) k) ?_
                refine own_st (T' := T33) (g' := (mkF m 202 #[.val (.int p0), .val (.int p1), .val (.int p2), .val (.int p3), .val (.int p4), .val (.int p5), .val (.int pc), .val (.int ev1), .val (.int pr1), .val (.int ev2), .val (.int pr2), .val (.int ev3), .val (.int pr3), .val (.ref sa), .val (.ref sb), .val (.ref u), .val (.int z12), .val (.int z32), .val (.int z31), .val e1, .unset] [(.ref sb)])) (fun _ k => XS.aload X33.here hx rfl (hb hby at_200) rfl rfl k) ?_
                refine own_st (T' := T33) (g' := (mkF m 216 #[.val (.int p0), .val (.int p1), .val (.int p2), .val (.int p3), .val (.int p4), .val (.int p5), .val (.int pc), .val (.int ev1), .val (.int pr1), .val (.int ev2), .val (.int pr2), .val (.int ev3), .val (.int pr3), .val (.ref sa), .val (.ref sb), .val (.ref u), .val (.int z12), .val (.int z32), .val (.int z31), .val e1, .unset] [(.ref sb)])) (fun _ k => XS.goto X33.here hx rfl (pc0 := 202) (pc' := 216) rfl (hb hby at_202) (by decide) (by decide) k) ?_
                exact J216 _ rfl (by subst hz32 hz31; by_cases u1 : i3 = i2 <;> by_cases u2 : i3 = i1 <;> simp_all)
            by_cases q12 : z12 = (0 : Int32)
            · refine own_st (T' := T33) (g' := (mkF m 191 #[.val (.int p0), .val (.int p1), .val (.int p2), .val (.int p3), .val (.int p4), .val (.int p5), .val (.int pc), .val (.int ev1), .val (.int pr1), .val (.int ev2), .val (.int pr2), .val (.int ev3), .val (.int pr3), .val (.ref sa), .val (.ref sb), .val (.ref u), .val (.int z12), .val (.int z32), .val (.int z31), .unset, .unset] [])) (fun _ k => XS.ifYes X33.here hx rfl (pc0 := 183) (pc' := 191) rfl (hb hby at_183) rfl (Jvm.Free.XT.i0_eq_t q12) (by decide) (by decide) k) ?_
              refine own_st (T' := T33) (g' := (mkF m 193 #[.val (.int p0), .val (.int p1), .val (.int p2), .val (.int p3), .val (.int p4), .val (.int p5), .val (.int pc), .val (.int ev1), .val (.int pr1), .val (.int ev2), .val (.int pr2), .val (.int ev3), .val (.int pr3), .val (.ref sa), .val (.ref sb), .val (.ref u), .val (.int z12), .val (.int z32), .val (.int z31), .unset, .unset] [(.ref sa)])) (fun _ k => XS.aload X33.here hx rfl (hb hby at_191) rfl rfl k) ?_
              exact J193 _ rfl (by subst hz12; by_cases u1 : i1 = i2 <;> simp_all)
            · refine own_st (T' := T33) (g' := (mkF m 186 #[.val (.int p0), .val (.int p1), .val (.int p2), .val (.int p3), .val (.int p4), .val (.int p5), .val (.int pc), .val (.int ev1), .val (.int pr1), .val (.int ev2), .val (.int pr2), .val (.int ev3), .val (.int pr3), .val (.ref sa), .val (.ref sb), .val (.ref u), .val (.int z12), .val (.int z32), .val (.int z31), .unset, .unset] [])) (fun _ k => XS.ifNo X33.here hx rfl (hb hby at_183) rfl (Jvm.Free.XT.i0_eq_f q12) k) ?_
              refine own_st (T' := T33) (g' := (mkF m 188 #[.val (.int p0), .val (.int p1), .val (.int p2), .val (.int p3), .val (.int p4), .val (.int p5), .val (.int pc), .val (.int ev1), .val (.int pr1), .val (.int ev2), .val (.int pr2), .val (.int ev3), .val (.int pr3), .val (.ref sa), .val (.ref sb), .val (.ref u), .val (.int z12), .val (.int z32), .val (.int z31), .unset, .unset] [(.ref sb)])) (fun _ k => XS.aload X33.here hx rfl (hb hby at_186) rfl rfl k) ?_
              refine own_st (T' := T33) (g' := (mkF m 193 #[.val (.int p0), .val (.int p1), .val (.int p2), .val (.int p3), .val (.int p4), .val (.int p5), .val (.int pc), .val (.int ev1), .val (.int pr1), .val (.int ev2), .val (.int pr2), .val (.int ev3), .val (.int pr3), .val (.ref sa), .val (.ref sb), .val (.ref u), .val (.int z12), .val (.int z32), .val (.int z31), .unset, .unset] [(.ref sb)])) (fun _ k => XS.goto X33.here hx rfl (pc0 := 188) (pc' := 193) rfl (hb hby at_188) (by decide) (by decide) k) ?_
              exact J193 _ rfl (by subst hz12; by_cases u1 : i1 = i2 <;> simp_all)
          by_cases qa : ev3 = ev1
          · refine own_st (T' := T33) (g' := (mkF m 167 #[.val (.int p0), .val (.int p1), .val (.int p2), .val (.int p3), .val (.int p4), .val (.int p5), .val (.int pc), .val (.int ev1), .val (.int pr1), .val (.int ev2), .val (.int pr2), .val (.int ev3), .val (.int pr3), .val (.ref sa), .val (.ref sb), .val (.ref u), .val (.int z12), .val (.int z32), .unset, .unset, .unset] [])) (fun _ k => XS.icmpNo X33.here hx rfl (hb hby at_164) rfl (Jvm.Free.XT.ii_ne_f qa) k) ?_
            refine own_st (T' := T33) (g' := (mkF m 169 #[.val (.int p0), .val (.int p1), .val (.int p2), .val (.int p3), .val (.int p4), .val (.int p5), .val (.int pc), .val (.int ev1), .val (.int pr1), .val (.int ev2), .val (.int pr2), .val (.int ev3), .val (.int pr3), .val (.ref sa), .val (.ref sb), .val (.ref u), .val (.int z12), .val (.int z32), .unset, .unset, .unset] [(.int pr3)])) (fun _ k => XS.iload X33.here hx rfl (hb hby at_167) rfl k) ?_
            refine own_st (T' := T33) (g' := (mkF m 171 #[.val (.int p0), .val (.int p1), .val (.int p2), .val (.int p3), .val (.int p4), .val (.int p5), .val (.int pc), .val (.int ev1), .val (.int pr1), .val (.int ev2), .val (.int pr2), .val (.int ev3), .val (.int pr3), .val (.ref sa), .val (.ref sb), .val (.ref u), .val (.int z12), .val (.int z32), .unset, .unset, .unset] [(.int pr1), (.int pr3)])) (fun _ k => XS.iload X33.here hx rfl (hb hby at_169) rfl k) ?_
            by_cases qb : pr3 = pr1
            · refine own_st (T' := T33) (g' := (mkF m 174 #[.val (.int p0), .val (.int p1), .val (.int p2), .val (.int p3), .val (.int p4), .val (.int p5), .val (.int pc), .val (.int ev1), .val (.int pr1), .val (.int ev2), .val (.int pr2), .val (.int ev3), .val (.int pr3), .val (.ref sa), .val (.ref sb), .val (.ref u), .val (.int z12), .val (.int z32), .unset, .unset, .unset] [])) (fun _ k => XS.icmpNo X33.here hx rfl (hb hby at_171) rfl (Jvm.Free.XT.ii_ne_f qb) k) ?_
              refine own_st (T' := T33) (g' := (mkF m 175 #[.val (.int p0), .val (.int p1), .val (.int p2), .val (.int p3), .val (.int p4), .val (.int p5), .val (.int pc), .val (.int ev1), .val (.int pr1), .val (.int ev2), .val (.int pr2), .val (.int ev3), .val (.int pr3), .val (.ref sa), .val (.ref sb), .val (.ref u), .val (.int z12), .val (.int z32), .unset, .unset, .unset] [(.int (1 : Int32))])) (fun _ k => XS.iconst X33.here hx rfl (hb hby at_174) k) ?_
              refine own_st (T' := T33) (g' := (mkF m 179 #[.val (.int p0), .val (.int p1), .val (.int p2), .val (.int p3), .val (.int p4), .val (.int p5), .val (.int pc), .val (.int ev1), .val (.int pr1), .val (.int ev2), .val (.int pr2), .val (.int ev3), .val (.int pr3), .val (.ref sa), .val (.ref sb), .val (.ref u), .val (.int z12), .val (.int z32), .unset, .unset, .unset] [(.int (1 : Int32))])) (fun _ k => XS.goto X33.here hx rfl (pc0 := 175) (pc' := 179) rfl (hb hby at_175) (by decide) (by decide) k) ?_
              exact J179 _ (by simp [inj31, qa, qb])
            · refine own_st (T' := T33) (g' := (mkF m 178 #[.val (.int p0), .val (.int p1), .val (.int p2), .val (.int p3), .val (.int p4), .val (.int p5), .val (.int pc), .val (.int ev1), .val (.int pr1), .val (.int ev2), .val (.int pr2), .val (.int ev3), .val (.int pr3), .val (.ref sa), .val (.ref sb), .val (.ref u), .val (.int z12), .val (.int z32), .unset, .unset, .unset] [])) (fun _ k => XS.icmpYes X33.here hx rfl (pc0 := 171) (pc' := 178) rfl (hb hby at_171) rfl (Jvm.Free.XT.ii_ne_t qb) (by decide) (by decide) k) ?_
              refine own_st (T' := T33) (g' := (mkF m 179 #[.val (.int p0), .val (.int p1), .val (.int p2), .val (.int p3), .val (.int p4), .val (.int p5), .val (.int pc), .val (.int ev1), .val (.int pr1), .val (.int ev2), .val (.int pr2), .val (.int ev3), .val (.int pr3), .val (.ref sa), .val (.ref sb), .val (.ref u), .val (.int z12), .val (.int z32), .unset, .unset, .unset] [(.int (0 : Int32))])) (fun _ k => XS.iconst X33.here hx rfl (hb hby at_178) k) ?_
              exact J179 _ (by simp [inj31, qa, qb])
          · refine own_st (T' := T33) (g' := (mkF m 178 #[.val (.int p0), .val (.int p1), .val (.int p2), .val (.int p3), .val (.int p4), .val (.int p5), .val (.int pc), .val (.int ev1), .val (.int pr1), .val (.int ev2), .val (.int pr2), .val (.int ev3), .val (.int pr3), .val (.ref sa), .val (.ref sb), .val (.ref u), .val (.int z12), .val (.int z32), .unset, .unset, .unset] [])) (fun _ k => XS.icmpYes X33.here hx rfl (pc0 := 164) (pc' := 178) rfl (hb hby at_164) rfl (Jvm.Free.XT.ii_ne_t qa) (by decide) (by decide) k) ?_
            refine own_st (T' := T33) (g' := (mkF m 179 #[.val (.int p0), .val (.int p1), .val (.int p2), .val (.int p3), .val (.int p4), .val (.int p5), .val (.int pc), .val (.int ev1), .val (.int pr1), .val (.int ev2), .val (.int pr2), .val (.int ev3), .val (.int pr3), .val (.ref sa), .val (.ref sb), .val (.ref u), .val (.int z12), .val (.int z32), .unset, .unset, .unset] [(.int (0 : Int32))])) (fun _ k => XS.iconst X33.here hx rfl (hb hby at_178) k) ?_
            exact J179 _ (by simp [inj31, qa])
        by_cases qa : ev3 = ev2
        · refine own_st (T' := T33) (g' := (mkF m 146 #[.val (.int p0), .val (.int p1), .val (.int p2), .val (.int p3), .val (.int p4), .val (.int p5), .val (.int pc), .val (.int ev1), .val (.int pr1), .val (.int ev2), .val (.int pr2), .val (.int ev3), .val (.int pr3), .val (.ref sa), .val (.ref sb), .val (.ref u), .val (.int z12), .unset, .unset, .unset, .unset] [])) (fun _ k => XS.icmpNo X33.here hx rfl (hb hby at_143) rfl (Jvm.Free.XT.ii_ne_f qa) k) ?_
          refine own_st (T' := T33) (g' := (mkF m 148 #[.val (.int p0), .val (.int p1), .val (.int p2), .val (.int p3), .val (.int p4), .val (.int p5), .val (.int pc), .val (.int ev1), .val (.int pr1), .val (.int ev2), .val (.int pr2), .val (.int ev3), .val (.int pr3), .val (.ref sa), .val (.ref sb), .val (.ref u), .val (.int z12), .unset, .unset, .unset, .unset] [(.int pr3)])) (fun _ k => XS.iload X33.here hx rfl (hb hby at_146) rfl k) ?_
          refine own_st (T' := T33) (g' := (mkF m 150 #[.val (.int p0), .val (.int p1), .val (.int p2), .val (.int p3), .val (.int p4), .val (.int p5), .val (.int pc), .val (.int ev1), .val (.int pr1), .val (.int ev2), .val (.int pr2), .val (.int ev3), .val (.int pr3), .val (.ref sa), .val (.ref sb), .val (.ref u), .val (.int z12), .unset, .unset, .unset, .unset] [(.int pr2), (.int pr3)])) (fun _ k => XS.iload X33.here hx rfl (hb hby at_148) rfl k) ?_
          by_cases qb : pr3 = pr2
          · refine own_st (T' := T33) (g' := (mkF m 153 #[.val (.int p0), .val (.int p1), .val (.int p2), .val (.int p3), .val (.int p4), .val (.int p5), .val (.int pc), .val (.int ev1), .val (.int pr1), .val (.int ev2), .val (.int pr2), .val (.int ev3), .val (.int pr3), .val (.ref sa), .val (.ref sb), .val (.ref u), .val (.int z12), .unset, .unset, .unset, .unset] [])) (fun _ k => XS.icmpNo X33.here hx rfl (hb hby at_150) rfl (Jvm.Free.XT.ii_ne_f qb) k) ?_
            refine own_st (T' := T33) (g' := (mkF m 154 #[.val (.int p0), .val (.int p1), .val (.int p2), .val (.int p3), .val (.int p4), .val (.int p5), .val (.int pc), .val (.int ev1), .val (.int pr1), .val (.int ev2), .val (.int pr2), .val (.int ev3), .val (.int pr3), .val (.ref sa), .val (.ref sb), .val (.ref u), .val (.int z12), .unset, .unset, .unset, .unset] [(.int (1 : Int32))])) (fun _ k => XS.iconst X33.here hx rfl (hb hby at_153) k) ?_
            refine own_st (T' := T33) (g' := (mkF m 158 #[.val (.int p0), .val (.int p1), .val (.int p2), .val (.int p3), .val (.int p4), .val (.int p5), .val (.int pc), .val (.int ev1), .val (.int pr1), .val (.int ev2), .val (.int pr2), .val (.int ev3), .val (.int pr3), .val (.ref sa), .val (.ref sb), .val (.ref u), .val (.int z12), .unset, .unset, .unset, .unset] [(.int (1 : Int32))])) (fun _ k => XS.goto X33.here hx rfl (pc0 := 154) (pc' := 158) rfl (hb hby at_154) (by decide) (by decide) k) ?_
            exact J158 _ (by simp [inj32, qa, qb])
          · refine own_st (T' := T33) (g' := (mkF m 157 #[.val (.int p0), .val (.int p1), .val (.int p2), .val (.int p3), .val (.int p4), .val (.int p5), .val (.int pc), .val (.int ev1), .val (.int pr1), .val (.int ev2), .val (.int pr2), .val (.int ev3), .val (.int pr3), .val (.ref sa), .val (.ref sb), .val (.ref u), .val (.int z12), .unset, .unset, .unset, .unset] [])) (fun _ k => XS.icmpYes X33.here hx rfl (pc0 := 150) (pc' := 157) rfl (hb hby at_150) rfl (Jvm.Free.XT.ii_ne_t qb) (by decide) (by decide) k) ?_
            refine own_st (T' := T33) (g' := (mkF m 158 #[.val (.int p0), .val (.int p1), .val (.int p2), .val (.int p3), .val (.int p4), .val (.int p5), .val (.int pc), .val (.int ev1), .val (.int pr1), .val (.int ev2), .val (.int pr2), .val (.int ev3), .val (.int pr3), .val (.ref sa), .val (.ref sb), .val (.ref u), .val (.int z12), .unset, .unset, .unset, .unset] [(.int (0 : Int32))])) (fun _ k => XS.iconst X33.here hx rfl (hb hby at_157) k) ?_
            exact J158 _ (by simp [inj32, qa, qb])
        · refine own_st (T' := T33) (g' := (mkF m 157 #[.val (.int p0), .val (.int p1), .val (.int p2), .val (.int p3), .val (.int p4), .val (.int p5), .val (.int pc), .val (.int ev1), .val (.int pr1), .val (.int ev2), .val (.int pr2), .val (.int ev3), .val (.int pr3), .val (.ref sa), .val (.ref sb), .val (.ref u), .val (.int z12), .unset, .unset, .unset, .unset] [])) (fun _ k => XS.icmpYes X33.here hx rfl (pc0 := 143) (pc' := 157) rfl (hb hby at_143) rfl (Jvm.Free.XT.ii_ne_t qa) (by decide) (by decide) k) ?_
          refine own_st (T' := T33) (g' := (mkF m 158 #[.val (.int p0), .val (.int p1), .val (.int p2), .val (.int p3), .val (.int p4), .val (.int p5), .val (.int pc), .val (.int ev1), .val (.int pr1), .val (.int ev2), .val (.int pr2), .val (.int ev3), .val (.int pr3), .val (.ref sa), .val (.ref sb), .val (.ref u), .val (.int z12), .unset, .unset, .unset, .unset] [(.int (0 : Int32))])) (fun _ k => XS.iconst X33.here hx rfl (hb hby at_157) k) ?_
          exact J158 _ (by simp [inj32, qa])
      by_cases qa : ev1 = ev2
      · refine own_st (T' := T33) (g' := (mkF m 125 #[.val (.int p0), .val (.int p1), .val (.int p2), .val (.int p3), .val (.int p4), .val (.int p5), .val (.int pc), .val (.int ev1), .val (.int pr1), .val (.int ev2), .val (.int pr2), .val (.int ev3), .val (.int pr3), .val (.ref sa), .val (.ref sb), .val (.ref u), .unset, .unset, .unset, .unset, .unset] [])) (fun _ k => XS.icmpNo X33.here hx rfl (hb hby at_122) rfl (Jvm.Free.XT.ii_ne_f qa) k) ?_
        refine own_st (T' := T33) (g' := (mkF m 127 #[.val (.int p0), .val (.int p1), .val (.int p2), .val (.int p3), .val (.int p4), .val (.int p5), .val (.int pc), .val (.int ev1), .val (.int pr1), .val (.int ev2), .val (.int pr2), .val (.int ev3), .val (.int pr3), .val (.ref sa), .val (.ref sb), .val (.ref u), .unset, .unset, .unset, .unset, .unset] [(.int pr1)])) (fun _ k => XS.iload X33.here hx rfl (hb hby at_125) rfl k) ?_
        refine own_st (T' := T33) (g' := (mkF m 129 #[.val (.int p0), .val (.int p1), .val (.int p2), .val (.int p3), .val (.int p4), .val (.int p5), .val (.int pc), .val (.int ev1), .val (.int pr1), .val (.int ev2), .val (.int pr2), .val (.int ev3), .val (.int pr3), .val (.ref sa), .val (.ref sb), .val (.ref u), .unset, .unset, .unset, .unset, .unset] [(.int pr2), (.int pr1)])) (fun _ k => XS.iload X33.here hx rfl (hb hby at_127) rfl k) ?_
        by_cases qb : pr1 = pr2
        · refine own_st (T' := T33) (g' := (mkF m 132 #[.val (.int p0), .val (.int p1), .val (.int p2), .val (.int p3), .val (.int p4), .val (.int p5), .val (.int pc), .val (.int ev1), .val (.int pr1), .val (.int ev2), .val (.int pr2), .val (.int ev3), .val (.int pr3), .val (.ref sa), .val (.ref sb), .val (.ref u), .unset, .unset, .unset, .unset, .unset] [])) (fun _ k => XS.icmpNo X33.here hx rfl (hb hby at_129) rfl (Jvm.Free.XT.ii_ne_f qb) k) ?_
          refine own_st (T' := T33) (g' := (mkF m 133 #[.val (.int p0), .val (.int p1), .val (.int p2), .val (.int p3), .val (.int p4), .val (.int p5), .val (.int pc), .val (.int ev1), .val (.int pr1), .val (.int ev2), .val (.int pr2), .val (.int ev3), .val (.int pr3), .val (.ref sa), .val (.ref sb), .val (.ref u), .unset, .unset, .unset, .unset, .unset] [(.int (1 : Int32))])) (fun _ k => XS.iconst X33.here hx rfl (hb hby at_132) k) ?_
          refine own_st (T' := T33) (g' := (mkF m 137 #[.val (.int p0), .val (.int p1), .val (.int p2), .val (.int p3), .val (.int p4), .val (.int p5), .val (.int pc), .val (.int ev1), .val (.int pr1), .val (.int ev2), .val (.int pr2), .val (.int ev3), .val (.int pr3), .val (.ref sa), .val (.ref sb), .val (.ref u), .unset, .unset, .unset, .unset, .unset] [(.int (1 : Int32))])) (fun _ k => XS.goto X33.here hx rfl (pc0 := 133) (pc' := 137) rfl (hb hby at_133) (by decide) (by decide) k) ?_
          exact J137 _ (by simp [inj12, qa, qb])
        · refine own_st (T' := T33) (g' := (mkF m 136 #[.val (.int p0), .val (.int p1), .val (.int p2), .val (.int p3), .val (.int p4), .val (.int p5), .val (.int pc), .val (.int ev1), .val (.int pr1), .val (.int ev2), .val (.int pr2), .val (.int ev3), .val (.int pr3), .val (.ref sa), .val (.ref sb), .val (.ref u), .unset, .unset, .unset, .unset, .unset] [])) (fun _ k => XS.icmpYes X33.here hx rfl (pc0 := 129) (pc' := 136) rfl (hb hby at_129) rfl (Jvm.Free.XT.ii_ne_t qb) (by decide) (by decide) k) ?_
          refine own_st (T' := T33) (g' := (mkF m 137 #[.val (.int p0), .val (.int p1), .val (.int p2), .val (.int p3), .val (.int p4), .val (.int p5), .val (.int pc), .val (.int ev1), .val (.int pr1), .val (.int ev2), .val (.int pr2), .val (.int ev3), .val (.int pr3), .val (.ref sa), .val (.ref sb), .val (.ref u), .unset, .unset, .unset, .unset, .unset] [(.int (0 : Int32))])) (fun _ k => XS.iconst X33.here hx rfl (hb hby at_136) k) ?_
          exact J137 _ (by simp [inj12, qa, qb])
      · refine own_st (T' := T33) (g' := (mkF m 136 #[.val (.int p0), .val (.int p1), .val (.int p2), .val (.int p3), .val (.int p4), .val (.int p5), .val (.int pc), .val (.int ev1), .val (.int pr1), .val (.int ev2), .val (.int pr2), .val (.int ev3), .val (.int pr3), .val (.ref sa), .val (.ref sb), .val (.ref u), .unset, .unset, .unset, .unset, .unset] [])) (fun _ k => XS.icmpYes X33.here hx rfl (pc0 := 122) (pc' := 136) rfl (hb hby at_122) rfl (Jvm.Free.XT.ii_ne_t qa) (by decide) (by decide) k) ?_
        refine own_st (T' := T33) (g' := (mkF m 137 #[.val (.int p0), .val (.int p1), .val (.int p2), .val (.int p3), .val (.int p4), .val (.int p5), .val (.int pc), .val (.int ev1), .val (.int pr1), .val (.int ev2), .val (.int pr2), .val (.int ev3), .val (.int pr3), .val (.ref sa), .val (.ref sb), .val (.ref u), .unset, .unset, .unset, .unset, .unset] [(.int (0 : Int32))])) (fun _ k => XS.iconst X33.here hx rfl (hb hby at_136) k) ?_
        exact J137 _ (by simp [inj12, qa])
    exact J58 _ _ _ _ _ _ (own_masks _).1 (own_modm _ _ (by omega)) (own_masks _).1 (own_modm _ _ (by omega)) (own_masks _).1 (own_modg (c_and _ (67108863 : Int32) (by decide)).1 (by omega))
  have g1 := (own_masks p0).2
  have g0 : (1 : Int32).toInt = 1 := rfl
  have g2 : ((1 : Int32) + (p0 &&& (3 : Int32))).toInt = (1 : Int32).toInt + (p0 &&& (3 : Int32)).toInt := Jvm.Free.XT.add32 ⟨by omega, by omega⟩
  exact J7 _ (by omega)
set_option maxRecDepth 65536 in
set_option maxHeartbeats 40000000 in
theorem comes_1 {Post : Tables → Env → Array Value → State → Outcome → State → Prop} (hpost : ∀ tb e args s v u, (limb_1_1.after args s (.returned v) u = true ∧ limb_1_2.after args s (.returned v) u = true ∧ True) → FrameEnd s (.returned v) u (Jvm.fieldLocs frame_1_writes args s ++ Jvm.arrayLocs frame_1_arrays args s ++ Jvm.staticLocs frame_1_statics s) 32 320 → Post tb e args s (.returned v) u) :
    ArmFor flags0 classFile x code maxLocals ret World_1 tables_1 room_1 Calls_1 rest_1 Pre_1 Post := by
  intro l hfl _ _ p e ha hc hk s m args below hf hA hF happ hP
  obtain ⟨hcalls, hrest, hpre⟩ := hP
  obtain ⟨-, -, -, hnamed, -, -, -, hat⟩ := (Spec.applies_iff hf).mp happ
  obtain ⟨hg, hn⟩ := and_e (Cond.before_iff.mp (show (Jvm.Cond.and given_1 narrow_1).before args s = true from hpre))
  obtain ⟨hcount, r0⟩ := and_e hg
  obtain ⟨hk0, r1⟩ := and_e r0
  obtain ⟨hk1, r2⟩ := and_e r1
  obtain ⟨hk2, r3⟩ := and_e r2
  obtain ⟨hk3, r4⟩ := and_e r3
  obtain ⟨hk4, r5⟩ := and_e r4
  have hk5 := r5
  obtain ⟨w0, w1, w2, w3, w4, w5, rfl⟩ : ∃ w0 w1 w2 w3 w4 w5 : Value, args = #[w0, w1, w2, w3, w4, w5] := by
    have hs : args.size = 6 := by simpa [Cond.value, given_1] using hcount
    obtain ⟨L⟩ := args
    match L, hs with
    | [w0, w1, w2, w3, w4, w5], _ => exact ⟨w0, w1, w2, w3, w4, w5, rfl⟩
  have hw := fun d (hd : d ∈ tables_1) => atoms_spec (ws := Jvm.Cond.code x code maxLocals ret :: tables_1) hat d (List.mem_cons_of_mem _ hd)
  have hfit : Fit s := fun {y c} hc i hi => by
    obtain ⟨ha, rfl⟩ := Array.getElem?_eq_some_iff.mp hc
    have q := List.all_eq_true.mp ((Array.all_eq_true_iff_forall_mem.mp hF) _ (Array.getElem_mem ha)) i (List.mem_range.mpr hi)
    simpa [Array.getElem?_eq_getElem hi] using q
  obtain ⟨hsets, hown0⟩ := atoms_of _ (rest_1_c_eq ▸ (show rest_1_c.before _ s = true from hrest))
  obtain ⟨i0, ei0⟩ := is_v hk0
  obtain rfl : w0 = (.int i0) := Option.some.inj ei0
  obtain ⟨i1, ei1⟩ := is_v hk1
  obtain rfl : w1 = (.int i1) := Option.some.inj ei1
  obtain ⟨i2, ei2⟩ := is_v hk2
  obtain rfl : w2 = (.int i2) := Option.some.inj ei2
  obtain ⟨i3, ei3⟩ := is_v hk3
  obtain rfl : w3 = (.int i3) := Option.some.inj ei3
  obtain ⟨i4, ei4⟩ := is_v hk4
  obtain rfl : w4 = (.int i4) := Option.some.inj ei4
  obtain ⟨i5, ei5⟩ := is_v hk5
  obtain rfl : w5 = (.int i5) := Option.some.inj ei5
  obtain ⟨cs, evC⟩ := is_v (Cond.before_iff.mp (hsets _ (List.mem_of_getElem? (i := 1) rfl)))
  have SC := Sta.start evC (Or.inl (hsets _ (List.mem_of_getElem? (i := 0) rfl)))
  have hcs : ¬ cs = (0 : Int32) := fun q => by
    have u := not_v (Cond.before_iff.mp (hsets _ (List.mem_of_getElem? (i := 2) rfl)))
    rw [q] at evC
    exact absurd u (by rw [eq_i evC (Term.int_eval 0) rfl]; decide)
  obtain ⟨n, o, h1, h2, h3, _, L, rfl, ⟨rfl, N⟩, hq⟩ := own_law l s _ hw tables_1 i0 i1 i2 i3 i4 i5 cs s.heap s.heap.size (Nat.le_refl _) (Old.start s) SC hcs p e ha hc hk s m _ below hf ((Spec.applies_iff_loose hf).mp happ).1 ⟨rfl, State.Warmed39.refl s, rfl⟩ trivial
  refine ⟨n, _, h1, h2, h3, hpost _ _ _ _ _ _ ⟨Cond.after_iff.mpr rfl, Cond.after_iff.mpr (eq_i res_at (Term.int_eval (1)) rfl), trivial⟩ ⟨hq.1, hq.2.1, (hq.2.2.sift fun y hy => Or.inr (N y hy)).mono (by decide) (by decide)⟩⟩
theorem main_1_1 : Claimed_1_1 := comes_1 fun _ _ _ _ _ _ h hF => ⟨h.1, hF⟩
theorem main_1_2 : Claimed_1_2 := comes_1 fun _ _ _ _ _ _ h hF => ⟨h.2.1, hF⟩
end Jvm.Pilot.@@N@@
namespace Jvm.Pilot.@@N@@
open Jvm Jvm.ClassFile Sem Op Lib Jvm.Free Jvm.Stand Jvm.Pilot.@@N@@.Jvm.D
/-! MADE BY PROGRAM (witnessworld.py) out of the Statement's table words and the real class files: 20 classes; the members and pool entries that the words name. The judged class is class 1, her method 1. -/
namespace start1
open Jvm.ClassFile
def u (s : String) : CpInfo := .utf8 (stringToUtf16 s)
/-- a pool by its gaps: so many unusable entries, then the entry; so many at the end -/
def gap : Nat → List CpInfo → List CpInfo
  | 0, r => r
  | n + 1, r => .unusable :: gap n r
def poolList (es : List (Nat × CpInfo)) (last : Nat) : List CpInfo := es.foldr (fun e r => gap e.1 (e.2 :: r)) (gap last [])
def pool (es : List (Nat × CpInfo)) (last : Nat) : Array CpInfo := ⟨poolList es last⟩
def fileOf (pool : Array CpInfo) (this : Nat) (attrs : Array Attribute := #[]) (ms : Array MethodInfo := #[]) (fl : Nat := 33) (sup : Nat := 0) (ifs : Array Nat := #[]) (fds : Array FieldInfo := #[]) : ClassFile where
  minorVersion := 0
  majorVersion := 65
  constantPool := pool
  accessFlags := fl
  thisClass := this
  superClass := sup
  interfaces := ifs
  fields := fds
  methods := ms
  attributes := attrs
def plain (name : String) (sup : Option ClassId) : Class where
  name := name
  kind := .ordinary
  loader := none
  accessFlags := 33
  super := sup
  interfaces := #[]
  cf := none
  fields := #[]
  methods := #[]
  instanceTypes := #[]
  staticTypes := #[]
  resolved := #[]
  callSites := []
  init := .initialized
  statics := none
  mirror := none

def pool0 : Array CpInfo := pool [(5, u "<init>"), (0, u "()V"), (1, .class_ 10), (1, u "java/lang/Object")] 113

def k0c0 : Code := { maxStack := 0, maxLocals := 1, code := object_method_1_code, exceptionTable := #[], attributes := #[] }
def k0m0 : Method := { name := "<init>", desc := "()V", sig := { parameters := [], returnType := none }, accessFlags := 1, code := some k0c0 }
/-- java/lang/Object -/
def k0 : Class := { plain "java/lang/Object" none with
  accessFlags := 33
  interfaces := #[]
  cf := some (fileOf pool0 8 #[] #[{ accessFlags := 1, nameIndex := 5, descriptorIndex := 6, attributes := #[] }] 33 0 #[] #[])
  fields := #[]
  methods := #[k0m0]
  instanceTypes := #[]
  staticTypes := #[]
  resolved := Array.replicate 124 none
  statics := none }

def pool1 : Array CpInfo := pool [(2, .class_ 4), (1, u "java/lang/Object"), (0, u "<init>"), (0, u "()V"), (0, .integer 2147483647), (0, .integer 67108863), (0, .methodref 10 11), (0, .class_ 12), (0, .nameAndType 13 14), (0, u "java/lang/String"), (0, u "valueOf"), (0, u "(C)Ljava/lang/String;"), (0, .class_ 16), (0, u "com/example/funnelwright/funnelwright/UserEvents"), (0, .methodref 15 18), (0, .nameAndType 5 19), (0, u "(I)V"), (0, .methodref 15 21), (0, .nameAndType 22 23), (0, u "setProperty"), (0, u "(IILjava/lang/String;)V"), (0, .methodref 15 25), (0, .nameAndType 26 27), (0, u "property"), (0, u "(II)Ljava/lang/String;"), (0, .methodref 15 29), (0, .nameAndType 30 31), (0, u "size"), (0, u "()I"), (0, .class_ 33), (0, u "com/example/funnelwright/funnelwright/UserEventsSetPropertyPinLaw"), (2, u "law"), (0, u "(IIIIII)Z")] 3

def k1m0 : Method := { name := "<init>", desc := "()V", sig := { parameters := [], returnType := none }, accessFlags := 1, code := none }
def k1c1 : Code := { maxStack := 4, maxLocals := 21, code := code, exceptionTable := #[], attributes := #[] }
def k1m1 : Method := { name := "law", desc := "(IIIIII)Z", sig := { parameters := [.int, .int, .int, .int, .int, .int], returnType := some .boolean }, accessFlags := 9, code := some k1c1 }
/-- com/example/funnelwright/funnelwright/UserEventsSetPropertyPinLaw -/
def k1 : Class := { plain "com/example/funnelwright/funnelwright/UserEventsSetPropertyPinLaw" (some 0) with
  accessFlags := 49
  interfaces := #[]
  cf := some (fileOf pool1 32 #[] #[{ accessFlags := 1, nameIndex := 5, descriptorIndex := 6, attributes := #[] }, { accessFlags := 9, nameIndex := 36, descriptorIndex := 37, attributes := #[] }] 49 2 #[] #[])
  fields := #[]
  methods := #[k1m0, k1m1]
  instanceTypes := #[]
  staticTypes := #[]
  resolved := Array.replicate 41 none
  statics := none }

def pool2 : Array CpInfo := pool [(1, .class_ 2), (0, u "java/io/Serializable"), (0, .class_ 4), (0, u "java/lang/Object")] 2

/-- java/io/Serializable -/
def k2 : Class := { plain "java/io/Serializable" (some 0) with
  accessFlags := 1537
  interfaces := #[]
  cf := some (fileOf pool2 1 #[] #[] 1537 3 #[] #[])
  fields := #[]
  methods := #[]
  instanceTypes := #[]
  staticTypes := #[]
  resolved := Array.replicate 7 none
  statics := none }

def pool3 : Array CpInfo := pool [(1, .class_ 2), (0, u "java/lang/Comparable"), (0, .class_ 4), (0, u "java/lang/Object")] 7

/-- java/lang/Comparable -/
def k3 : Class := { plain "java/lang/Comparable" (some 0) with
  accessFlags := 1537
  interfaces := #[]
  cf := some (fileOf pool3 1 #[] #[] 1537 3 #[] #[])
  fields := #[]
  methods := #[]
  instanceTypes := #[]
  staticTypes := #[]
  resolved := Array.replicate 12 none
  statics := none }

def pool4 : Array CpInfo := pool [(2, .class_ 4), (1, u "java/lang/CharSequence"), (42, .class_ 48), (0, u "java/lang/CharSequence$1CodePointIterator"), (10, .class_ 60), (0, u "java/lang/CharSequence$1CharIterator"), (5, .class_ 67), (0, u "java/lang/Object")] 63

/-- java/lang/CharSequence -/
def k4 : Class := { plain "java/lang/CharSequence" (some 0) with
  accessFlags := 1537
  interfaces := #[]
  cf := some (fileOf pool4 2 #[.nestMembers #[47, 59]] #[] 1537 66 #[] #[])
  fields := #[]
  methods := #[]
  instanceTypes := #[]
  staticTypes := #[]
  resolved := Array.replicate 131 none
  statics := none }

def pool5 : Array CpInfo := pool [(1, .class_ 2), (0, u "java/lang/constant/Constable"), (0, .class_ 4), (0, u "java/lang/Object")] 6

/-- java/lang/constant/Constable -/
def k5 : Class := { plain "java/lang/constant/Constable" (some 0) with
  accessFlags := 1537
  interfaces := #[]
  cf := some (fileOf pool5 1 #[] #[] 1537 3 #[] #[])
  fields := #[]
  methods := #[]
  instanceTypes := #[]
  staticTypes := #[]
  resolved := Array.replicate 11 none
  statics := none }

def pool6 : Array CpInfo := pool [(1, .class_ 2), (0, u "java/lang/constant/ConstantDesc"), (0, .class_ 4), (0, u "java/lang/Object")] 32

/-- java/lang/constant/ConstantDesc -/
def k6 : Class := { plain "java/lang/constant/ConstantDesc" (some 0) with
  accessFlags := 1537
  interfaces := #[]
  cf := some (fileOf pool6 1 #[] #[] 1537 3 #[] #[])
  fields := #[]
  methods := #[]
  instanceTypes := #[]
  staticTypes := #[]
  resolved := Array.replicate 37 none
  statics := none }

def pool7 : Array CpInfo := pool [(1, .methodref 2 3), (0, .class_ 4), (0, .nameAndType 5 6), (0, u "java/lang/Object"), (0, u "<init>"), (0, u "()V"), (2, .fieldref 10 11), (0, .class_ 12), (0, .nameAndType 13 14), (0, u "java/lang/String"), (0, u "value"), (0, u "[B"), (0, .fieldref 10 16), (0, .nameAndType 17 18), (0, u "coder"), (0, u "B"), (2, u "hash"), (0, u "I"), (2, u "hashIsZero"), (0, u "Z"), (11, .fieldref 10 39), (0, .nameAndType 40 26), (0, u "COMPACT_STRINGS"), (12, u "toBytes"), (53, .class_ 109), (1, u "java/lang/StringLatin1"), (99, .methodref 10 210), (0, .nameAndType 5 211), (0, u "([BB)V"), (157, u "(C)Z"), (205, .class_ 576), (0, u "java/lang/CharSequence"), (22, u "CASE_INSENSITIVE_ORDER"), (0, u "Ljava/util/Comparator;"), (181, u "valueOf"), (0, u "(C)Ljava/lang/String;"), (231, .methodref 107 1016), (0, .nameAndType 1017 369), (0, u "canEncode"), (0, .methodref 107 1019), (0, .nameAndType 53 1020), (0, u "(C)[B"), (80, u "serialPersistentFields"), (0, u "[Ljava/io/ObjectStreamField;"), (0, .class_ 1104), (0, u "java/lang/String$CaseInsensitiveComparator"), (1, .class_ 1107), (0, u "java/io/Serializable"), (0, .class_ 1109), (0, u "java/lang/Comparable"), (0, .class_ 1111), (0, u "java/lang/constant/Constable"), (0, .class_ 1113), (0, u "java/lang/constant/ConstantDesc"), (2, u "serialVersionUID"), (0, u "J"), (3, u "REPL"), (0, u "C"), (2, u "LATIN1"), (1, u "UTF16")] 323

def k7m0 : Method := { name := "<init>", desc := "()V", sig := { parameters := [], returnType := none }, accessFlags := 1, code := none }
def k7c1 : Code := { maxStack := 4, maxLocals := 1, code := jdk_42_method_139_code, exceptionTable := #[], attributes := #[] }
def k7m1 : Method := { name := "valueOf", desc := "(C)Ljava/lang/String;", sig := { parameters := [.char], returnType := some (.object "java/lang/String") }, accessFlags := 9, code := some k7c1 }
def k7c2 : Code := { maxStack := 2, maxLocals := 3, code := jdk_42_method_151_code, exceptionTable := #[], attributes := #[] }
def k7m2 : Method := { name := "<init>", desc := "([BB)V", sig := { parameters := [(.array .byte), .byte], returnType := none }, accessFlags := 0, code := some k7c2 }
/-- java/lang/String -/
def k7 : Class := { plain "java/lang/String" (some 0) with
  accessFlags := 49
  interfaces := #[2, 3, 4, 5, 6]
  cf := some (fileOf pool7 10 #[.nestMembers #[1103]] #[{ accessFlags := 1, nameIndex := 5, descriptorIndex := 6, attributes := #[] }, { accessFlags := 9, nameIndex := 782, descriptorIndex := 783, attributes := #[] }, { accessFlags := 0, nameIndex := 5, descriptorIndex := 211, attributes := #[] }] 49 2 #[1106, 1108, 575, 1110, 1112] #[{ accessFlags := 18, nameIndex := 13, descriptorIndex := 14, attributes := #[] }, { accessFlags := 18, nameIndex := 17, descriptorIndex := 18, attributes := #[] }, { accessFlags := 2, nameIndex := 21, descriptorIndex := 22, attributes := #[] }, { accessFlags := 2, nameIndex := 25, descriptorIndex := 26, attributes := #[] }, { accessFlags := 26, nameIndex := 1116, descriptorIndex := 1117, attributes := #[] }, { accessFlags := 24, nameIndex := 40, descriptorIndex := 26, attributes := #[] }, { accessFlags := 26, nameIndex := 1101, descriptorIndex := 1102, attributes := #[] }, { accessFlags := 26, nameIndex := 1121, descriptorIndex := 1122, attributes := #[] }, { accessFlags := 25, nameIndex := 599, descriptorIndex := 600, attributes := #[] }, { accessFlags := 24, nameIndex := 1125, descriptorIndex := 18, attributes := #[] }, { accessFlags := 24, nameIndex := 1127, descriptorIndex := 18, attributes := #[] }])
  fields := #[{ name := "value", type := (.array .byte), accessFlags := 18, slot := 0, constantValue := 0 }, { name := "coder", type := .byte, accessFlags := 18, slot := 1, constantValue := 0 }, { name := "hash", type := .int, accessFlags := 2, slot := 2, constantValue := 0 }, { name := "hashIsZero", type := .boolean, accessFlags := 2, slot := 3, constantValue := 0 }, { name := "serialVersionUID", type := .long, accessFlags := 26, slot := 0, constantValue := 0 }, { name := "COMPACT_STRINGS", type := .boolean, accessFlags := 24, slot := 1, constantValue := 0 }, { name := "serialPersistentFields", type := (.array (.object "java/io/ObjectStreamField")), accessFlags := 26, slot := 2, constantValue := 0 }, { name := "REPL", type := .char, accessFlags := 26, slot := 3, constantValue := 0 }, { name := "CASE_INSENSITIVE_ORDER", type := (.object "java/util/Comparator"), accessFlags := 25, slot := 4, constantValue := 0 }, { name := "LATIN1", type := .byte, accessFlags := 24, slot := 5, constantValue := 0 }, { name := "UTF16", type := .byte, accessFlags := 24, slot := 6, constantValue := 0 }]
  methods := #[k7m0, k7m1, k7m2]
  instanceTypes := #[(.array .byte), .byte, .int, .boolean]
  staticTypes := #[.long, .boolean, (.array (.object "java/io/ObjectStreamField")), .char, (.object "java/util/Comparator"), .byte, .byte]
  resolved := Array.replicate 1451 none
  statics := some 0 }

def pool8 : Array CpInfo := pool [(4, .class_ 6), (1, u "java/lang/Object"), (0, u "<init>"), (0, u "()V"), (5, .class_ 16), (1, u "java/lang/StringLatin1"), (73, u "canEncode"), (14, u "(C)Z"), (15, u "$assertionsDisabled"), (0, u "Z"), (98, .class_ 223), (1, u "java/lang/StringLatin1$LinesSpliterator"), (156, u "toBytes"), (1, u "(C)[B"), (7, .class_ 391), (0, u "java/lang/StringLatin1$CharsSpliterator")] 3

def k8m0 : Method := { name := "<init>", desc := "()V", sig := { parameters := [], returnType := none }, accessFlags := 0, code := none }
def k8c1 : Code := { maxStack := 2, maxLocals := 1, code := jdk_43_method_3_code, exceptionTable := #[], attributes := #[] }
def k8m1 : Method := { name := "canEncode", desc := "(C)Z", sig := { parameters := [.char], returnType := some .boolean }, accessFlags := 9, code := some k8c1 }
def k8c2 : Code := { maxStack := 4, maxLocals := 1, code := jdk_43_method_46_code, exceptionTable := #[], attributes := #[] }
def k8m2 : Method := { name := "toBytes", desc := "(C)[B", sig := { parameters := [.char], returnType := some (.array .byte) }, accessFlags := 9, code := some k8c2 }
/-- java/lang/StringLatin1 -/
def k8 : Class := { plain "java/lang/StringLatin1" (some 0) with
  accessFlags := 48
  interfaces := #[]
  cf := some (fileOf pool8 14 #[.nestMembers #[390, 221]] #[{ accessFlags := 0, nameIndex := 7, descriptorIndex := 8, attributes := #[] }, { accessFlags := 9, nameIndex := 90, descriptorIndex := 105, attributes := #[] }, { accessFlags := 9, nameIndex := 380, descriptorIndex := 382, attributes := #[] }] 48 4 #[] #[{ accessFlags := 4120, nameIndex := 121, descriptorIndex := 122, attributes := #[] }])
  fields := #[{ name := "$assertionsDisabled", type := .boolean, accessFlags := 4120, slot := 0, constantValue := 0 }]
  methods := #[k8m0, k8m1, k8m2]
  instanceTypes := #[]
  staticTypes := #[.boolean]
  resolved := Array.replicate 395 none
  statics := none }

def pool9 : Array CpInfo := pool [(1, .methodref 2 3), (0, .class_ 4), (0, .nameAndType 5 6), (0, u "java/lang/Object"), (0, u "<init>"), (0, u "()V"), (0, .fieldref 8 9), (0, .class_ 10), (0, .nameAndType 11 12), (0, u "com/example/funnelwright/funnelwright/UserEvents"), (0, u "id"), (0, u "[B"), (0, .fieldref 8 14), (0, .nameAndType 15 16), (0, u "times"), (0, u "[J"), (0, .fieldref 8 18), (0, .nameAndType 19 20), (0, u "kinds"), (0, u "[I"), (0, .fieldref 8 22), (0, .nameAndType 23 24), (0, u "propertyCount"), (0, u "I"), (0, .class_ 26), (0, u "java/lang/String"), (0, .fieldref 8 28), (0, .nameAndType 29 30), (0, u "properties"), (0, u "[Ljava/lang/String;"), (2, u "userId"), (0, u "Ljava/lang/String;"), (2, u "idLength"), (9, .fieldref 8 48), (0, .nameAndType 49 24), (0, u "size"), (25, u "(I)V"), (4, u "()I"), (4, u "property"), (0, u "(II)Ljava/lang/String;"), (4, u "setProperty"), (0, u "(IILjava/lang/String;)V")] 4

def k9c0 : Code := { maxStack := 3, maxLocals := 2, code := prog_22_method_1_code, exceptionTable := #[], attributes := #[] }
def k9m0 : Method := { name := "<init>", desc := "(I)V", sig := { parameters := [.int], returnType := none }, accessFlags := 0, code := some k9c0 }
def k9c1 : Code := { maxStack := 1, maxLocals := 1, code := prog_22_method_3_code, exceptionTable := #[], attributes := #[] }
def k9m1 : Method := { name := "size", desc := "()I", sig := { parameters := [], returnType := some .int }, accessFlags := 1, code := some k9c1 }
def k9c2 : Code := { maxStack := 3, maxLocals := 3, code := prog_22_method_6_code, exceptionTable := #[], attributes := #[] }
def k9m2 : Method := { name := "property", desc := "(II)Ljava/lang/String;", sig := { parameters := [.int, .int], returnType := some (.object "java/lang/String") }, accessFlags := 1, code := some k9c2 }
def k9c3 : Code := { maxStack := 3, maxLocals := 4, code := prog_22_method_9_code, exceptionTable := #[], attributes := #[] }
def k9m3 : Method := { name := "setProperty", desc := "(IILjava/lang/String;)V", sig := { parameters := [.int, .int, (.object "java/lang/String")], returnType := none }, accessFlags := 0, code := some k9c3 }
/-- com/example/funnelwright/funnelwright/UserEvents -/
def k9 : Class := { plain "com/example/funnelwright/funnelwright/UserEvents" (some 0) with
  accessFlags := 33
  interfaces := #[]
  cf := some (fileOf pool9 8 #[] #[{ accessFlags := 0, nameIndex := 5, descriptorIndex := 75, attributes := #[] }, { accessFlags := 1, nameIndex := 49, descriptorIndex := 80, attributes := #[] }, { accessFlags := 1, nameIndex := 85, descriptorIndex := 86, attributes := #[] }, { accessFlags := 0, nameIndex := 91, descriptorIndex := 92, attributes := #[] }] 33 2 #[] #[{ accessFlags := 18, nameIndex := 23, descriptorIndex := 24, attributes := #[] }, { accessFlags := 2, nameIndex := 11, descriptorIndex := 12, attributes := #[] }, { accessFlags := 2, nameIndex := 37, descriptorIndex := 24, attributes := #[] }, { accessFlags := 2, nameIndex := 33, descriptorIndex := 34, attributes := #[] }, { accessFlags := 2, nameIndex := 15, descriptorIndex := 16, attributes := #[] }, { accessFlags := 2, nameIndex := 19, descriptorIndex := 20, attributes := #[] }, { accessFlags := 2, nameIndex := 29, descriptorIndex := 30, attributes := #[] }, { accessFlags := 2, nameIndex := 49, descriptorIndex := 24, attributes := #[] }])
  fields := #[{ name := "propertyCount", type := .int, accessFlags := 18, slot := 0, constantValue := 0 }, { name := "id", type := (.array .byte), accessFlags := 2, slot := 1, constantValue := 0 }, { name := "idLength", type := .int, accessFlags := 2, slot := 2, constantValue := 0 }, { name := "userId", type := (.object "java/lang/String"), accessFlags := 2, slot := 3, constantValue := 0 }, { name := "times", type := (.array .long), accessFlags := 2, slot := 4, constantValue := 0 }, { name := "kinds", type := (.array .int), accessFlags := 2, slot := 5, constantValue := 0 }, { name := "properties", type := (.array (.object "java/lang/String")), accessFlags := 2, slot := 6, constantValue := 0 }, { name := "size", type := .int, accessFlags := 2, slot := 7, constantValue := 0 }]
  methods := #[k9m0, k9m1, k9m2, k9m3]
  instanceTypes := #[.int, (.array .byte), .int, (.object "java/lang/String"), (.array .long), (.array .int), (.array (.object "java/lang/String")), .int]
  staticTypes := #[]
  resolved := Array.replicate 97 none
  statics := none }

def pool10 : Array CpInfo := pool [(2, .class_ 4), (1, u "java/lang/Object"), (0, u "<init>"), (0, u "()V"), (17, .class_ 26), (1, u "jdk/internal/util/Preconditions"), (28, .class_ 56), (0, u "jdk/internal/util/Preconditions$4"), (57, .class_ 115), (0, u "jdk/internal/util/Preconditions$1"), (7, u "SIOOBE_FORMATTER"), (0, u "Ljava/util/function/BiFunction;"), (0, .class_ 126), (0, u "jdk/internal/util/Preconditions$2"), (3, u "AIOOBE_FORMATTER"), (0, .class_ 132), (0, u "jdk/internal/util/Preconditions$3"), (3, u "IOOBE_FORMATTER")] 57

def k10m0 : Method := { name := "<init>", desc := "()V", sig := { parameters := [], returnType := none }, accessFlags := 1, code := none }
/-- jdk/internal/util/Preconditions -/
def k10 : Class := { plain "jdk/internal/util/Preconditions" (some 0) with
  accessFlags := 33
  interfaces := #[]
  cf := some (fileOf pool10 24 #[.nestMembers #[55, 131, 125, 114]] #[{ accessFlags := 1, nameIndex := 5, descriptorIndex := 6, attributes := #[] }] 33 2 #[] #[{ accessFlags := 25, nameIndex := 123, descriptorIndex := 124, attributes := #[] }, { accessFlags := 25, nameIndex := 130, descriptorIndex := 124, attributes := #[] }, { accessFlags := 25, nameIndex := 136, descriptorIndex := 124, attributes := #[] }])
  fields := #[{ name := "SIOOBE_FORMATTER", type := (.object "java/util/function/BiFunction"), accessFlags := 25, slot := 0, constantValue := 0 }, { name := "AIOOBE_FORMATTER", type := (.object "java/util/function/BiFunction"), accessFlags := 25, slot := 1, constantValue := 0 }, { name := "IOOBE_FORMATTER", type := (.object "java/util/function/BiFunction"), accessFlags := 25, slot := 2, constantValue := 0 }]
  methods := #[k10m0]
  instanceTypes := #[]
  staticTypes := #[(.object "java/util/function/BiFunction"), (.object "java/util/function/BiFunction"), (.object "java/util/function/BiFunction")]
  resolved := Array.replicate 194 none
  statics := some 1 }

def pool11 : Array CpInfo := pool [(9, u "<init>"), (6, .class_ 18), (1, u "java/lang/Object"), (0, u "()V"), (1, .class_ 23), (1, u "jdk/internal/util/ArraysSupport"), (0, u "LOG2_ARRAY_LONG_INDEX_SCALE"), (0, u "I"), (2, u "U"), (0, u "Ljdk/internal/misc/Unsafe;"), (8, u "BIG_ENDIAN"), (0, u "Z"), (8, u "LOG2_BYTE_BIT_SIZE"), (4, u "LOG2_ARRAY_INT_INDEX_SCALE"), (54, u "JLA"), (0, u "Ljdk/internal/access/JavaLangAccess;"), (11, u "LOG2_ARRAY_BOOLEAN_INDEX_SCALE"), (9, u "LOG2_ARRAY_BYTE_INDEX_SCALE"), (5, u "LOG2_ARRAY_CHAR_INDEX_SCALE"), (5, u "LOG2_ARRAY_SHORT_INDEX_SCALE"), (18, u "LOG2_ARRAY_FLOAT_INDEX_SCALE"), (24, u "LOG2_ARRAY_DOUBLE_INDEX_SCALE"), (89, u "T_BOOLEAN"), (2, u "T_CHAR"), (1, u "T_FLOAT"), (1, u "T_DOUBLE"), (1, u "T_BYTE"), (1, u "T_SHORT"), (1, u "T_INT"), (1, u "T_LONG"), (1, u "SOFT_MAX_ARRAY_LENGTH")] 83

def k11m0 : Method := { name := "<init>", desc := "()V", sig := { parameters := [], returnType := none }, accessFlags := 2, code := none }
/-- jdk/internal/util/ArraysSupport -/
def k11 : Class := { plain "jdk/internal/util/ArraysSupport" (some 0) with
  accessFlags := 33
  interfaces := #[]
  cf := some (fileOf pool11 21 #[] #[{ accessFlags := 2, nameIndex := 9, descriptorIndex := 19, attributes := #[] }] 33 16 #[] #[{ accessFlags := 24, nameIndex := 28, descriptorIndex := 29, attributes := #[] }, { accessFlags := 26, nameIndex := 38, descriptorIndex := 39, attributes := #[] }, { accessFlags := 25, nameIndex := 121, descriptorIndex := 25, attributes := #[] }, { accessFlags := 25, nameIndex := 131, descriptorIndex := 25, attributes := #[] }, { accessFlags := 25, nameIndex := 137, descriptorIndex := 25, attributes := #[] }, { accessFlags := 25, nameIndex := 143, descriptorIndex := 25, attributes := #[] }, { accessFlags := 25, nameIndex := 53, descriptorIndex := 25, attributes := #[] }, { accessFlags := 25, nameIndex := 24, descriptorIndex := 25, attributes := #[] }, { accessFlags := 25, nameIndex := 162, descriptorIndex := 25, attributes := #[] }, { accessFlags := 25, nameIndex := 187, descriptorIndex := 25, attributes := #[] }, { accessFlags := 26, nameIndex := 48, descriptorIndex := 25, attributes := #[] }, { accessFlags := 25, nameIndex := 277, descriptorIndex := 25, attributes := #[] }, { accessFlags := 25, nameIndex := 280, descriptorIndex := 25, attributes := #[] }, { accessFlags := 25, nameIndex := 282, descriptorIndex := 25, attributes := #[] }, { accessFlags := 25, nameIndex := 284, descriptorIndex := 25, attributes := #[] }, { accessFlags := 25, nameIndex := 286, descriptorIndex := 25, attributes := #[] }, { accessFlags := 25, nameIndex := 288, descriptorIndex := 25, attributes := #[] }, { accessFlags := 25, nameIndex := 290, descriptorIndex := 25, attributes := #[] }, { accessFlags := 25, nameIndex := 292, descriptorIndex := 25, attributes := #[] }, { accessFlags := 26, nameIndex := 108, descriptorIndex := 109, attributes := #[] }, { accessFlags := 25, nameIndex := 294, descriptorIndex := 25, attributes := #[] }])
  fields := #[{ name := "U", type := (.object "jdk/internal/misc/Unsafe"), accessFlags := 24, slot := 0, constantValue := 0 }, { name := "BIG_ENDIAN", type := .boolean, accessFlags := 26, slot := 1, constantValue := 0 }, { name := "LOG2_ARRAY_BOOLEAN_INDEX_SCALE", type := .int, accessFlags := 25, slot := 2, constantValue := 0 }, { name := "LOG2_ARRAY_BYTE_INDEX_SCALE", type := .int, accessFlags := 25, slot := 3, constantValue := 0 }, { name := "LOG2_ARRAY_CHAR_INDEX_SCALE", type := .int, accessFlags := 25, slot := 4, constantValue := 0 }, { name := "LOG2_ARRAY_SHORT_INDEX_SCALE", type := .int, accessFlags := 25, slot := 5, constantValue := 0 }, { name := "LOG2_ARRAY_INT_INDEX_SCALE", type := .int, accessFlags := 25, slot := 6, constantValue := 0 }, { name := "LOG2_ARRAY_LONG_INDEX_SCALE", type := .int, accessFlags := 25, slot := 7, constantValue := 0 }, { name := "LOG2_ARRAY_FLOAT_INDEX_SCALE", type := .int, accessFlags := 25, slot := 8, constantValue := 0 }, { name := "LOG2_ARRAY_DOUBLE_INDEX_SCALE", type := .int, accessFlags := 25, slot := 9, constantValue := 0 }, { name := "LOG2_BYTE_BIT_SIZE", type := .int, accessFlags := 26, slot := 10, constantValue := 0 }, { name := "T_BOOLEAN", type := .int, accessFlags := 25, slot := 11, constantValue := 0 }, { name := "T_CHAR", type := .int, accessFlags := 25, slot := 12, constantValue := 0 }, { name := "T_FLOAT", type := .int, accessFlags := 25, slot := 13, constantValue := 0 }, { name := "T_DOUBLE", type := .int, accessFlags := 25, slot := 14, constantValue := 0 }, { name := "T_BYTE", type := .int, accessFlags := 25, slot := 15, constantValue := 0 }, { name := "T_SHORT", type := .int, accessFlags := 25, slot := 16, constantValue := 0 }, { name := "T_INT", type := .int, accessFlags := 25, slot := 17, constantValue := 0 }, { name := "T_LONG", type := .int, accessFlags := 25, slot := 18, constantValue := 0 }, { name := "JLA", type := (.object "jdk/internal/access/JavaLangAccess"), accessFlags := 26, slot := 19, constantValue := 0 }, { name := "SOFT_MAX_ARRAY_LENGTH", type := .int, accessFlags := 25, slot := 20, constantValue := 0 }]
  methods := #[k11m0]
  instanceTypes := #[]
  staticTypes := #[(.object "jdk/internal/misc/Unsafe"), .boolean, .int, .int, .int, .int, .int, .int, .int, .int, .int, .int, .int, .int, .int, .int, .int, .int, .int, (.object "jdk/internal/access/JavaLangAccess"), .int]
  resolved := Array.replicate 378 none
  statics := none }

def pool12 : Array CpInfo := pool [(1, u "java/lang/Cloneable"), (0, .class_ 1), (0, u "java/lang/Object"), (0, .class_ 3)] 3

/-- java/lang/Cloneable -/
def k12 : Class := { plain "java/lang/Cloneable" (some 0) with
  accessFlags := 1537
  interfaces := #[]
  cf := some (fileOf pool12 2 #[] #[] 1537 4 #[] #[])
  fields := #[]
  methods := #[]
  instanceTypes := #[]
  staticTypes := #[]
  resolved := Array.replicate 8 none
  statics := none }

/-- the primitive byte -/
def k13 : Class := { plain "byte" none with kind := .primitive 'B', accessFlags := 0x411 }
/-- [B -/
def k14 : Class := { plain "[B" (some 0) with kind := .array 13 .byte, interfaces := #[12, 2], accessFlags := 1041 }

/-- the primitive int -/
def k15 : Class := { plain "int" none with kind := .primitive 'I', accessFlags := 0x411 }
/-- [I -/
def k16 : Class := { plain "[I" (some 0) with kind := .array 15 .int, interfaces := #[12, 2], accessFlags := 1041 }

/-- the primitive long -/
def k17 : Class := { plain "long" none with kind := .primitive 'J', accessFlags := 0x411 }
/-- [J -/
def k18 : Class := { plain "[J" (some 0) with kind := .array 17 .long, interfaces := #[12, 2], accessFlags := 1041 }

/-- [Ljava/lang/String; -/
def k19 : Class := { plain "[Ljava/lang/String;" (some 0) with kind := .array 7 (.object "java/lang/String"), interfaces := #[12, 2], accessFlags := 1041 }

def heap : Heap := #[{ cls := 7, slots := #[.long 0, .int 1, .null, .int 0, .null, .int 0, .int 0], vm := .statics 7 },
  { cls := 10, slots := #[.null, .null, .null], vm := .statics 10 }]
def classes : Array Class := #[k0, k1, k2, k3, k4, k5, k6, k7, k8, k9, k10, k11, k12, k13, k14, k15, k16, k17, k18, k19]
def interned : List (Array UInt16 × Addr) := []
def slotsUsed : Nat := 10
def theMethod : MethodId := ⟨1, 1⟩
def args0 : Array Value := #[.int 5, .int 5, .int 5, .int 5, .int 5, .int 5]
def aboutOver (below : List Frame) : State where
  vm := { classes := classes, interned := interned.toArray }
  heap := heap
  slotsUsed := slotsUsed
  threads := #[{ frames := .invoking theMethod args0 :: below }]
def below0 : List Frame := [.native { method := ⟨0, 0⟩, args := #[] }]
def about1 : State := aboutOver below0
def p0 : Program := .bare "" "" ""
def e0 : Env := launch0.env 0 0 0
theorem w_frames : about1.frames = Frame.invoking theMethod args0 :: below0 := rfl
set_option maxRecDepth 65536 in
theorem w_args : argsFit about1.vm theMethod args0 = true := by decide +kernel
set_option maxRecDepth 65536 in
theorem w_heap : heapFits about1 = true := by decide +kernel
set_option maxRecDepth 65536 in
theorem w_runnable : about1.curStatus? = some .runnable := by decide +kernel
set_option maxRecDepth 65536 in
theorem w_alone : about1.alone = true := by decide +kernel
set_option maxRecDepth 65536 in
theorem w_named : about1.methodNamed? x = some theMethod := by decide +kernel
set_option maxRecDepth 65536 in
theorem w_hears : about1.hears theMethod below0 = true := by decide +kernel
set_option maxRecDepth 65536 in
theorem w_ripe : about1.ripe theMethod args0 below0 = true := by decide +kernel
theorem w_running : about1.status = .running := rfl
set_option maxRecDepth 65536 in
theorem w_room : about1.hasRoom e0.platform room_1 = true :=
  launch0.hasRoom_least _ room_1 (by decide +kernel) (by decide +kernel) (by decide +kernel) (by decide +kernel) (by decide +kernel) (by decide +kernel)
theorem allAtoms_all (ts : List Jvm.Cond) (a : Array Jvm.Value) (st : Jvm.State) : (allAtoms ts).before a st = ts.all (fun c => c.before a st) := by
  induction ts with
  | nil => rfl
  | cons c t ih =>
    show (Jvm.Cond.and c (allAtoms t)).before a st = _
    rw [Jvm.Cond.before_and, ih, List.all_cons]
def words1 : List Jvm.Cond := Jvm.Cond.code x code maxLocals ret :: tables_1
/-- a 'code' word, met by the world's own term for the bytes: nothing is compared byte by byte -/
theorem code_word {y : MethodName} {bytes : ByteArray} {mx : Nat} {rt : Option FieldType} {a : Array Value} {s : State} {m : MethodId} {meth : Method} {c : Code} (h1 : s.methodNamed? y = some m) (h2 : s.vm.method? m = some meth) (h3 : meth.code = some c) (h4 : c.code = bytes)
    (h5 : (c.maxLocals == mx && c.exceptionTable.isEmpty && decide (c.maxStack ≤ mostOperands) && decide (meth.sig.returnType = rt) && !meth.locks && decide (parseMethodDescriptor y.desc = some meth.sig)) = true) : (Jvm.Cond.code y bytes mx rt).before a s = true := by
  simp only [Bool.and_eq_true, beq_iff_eq, Bool.not_eq_true', decide_eq_true_eq] at h5
  obtain ⟨⟨⟨⟨⟨g1, g2⟩, g3⟩, g4⟩, g5⟩, g6⟩ := h5
  simp [Cond.before, Cond.holds, Cond.value, h1, h2, h3, h4, g1, g2, g3, g4, g5, g6]
def isCode : Jvm.Cond → Bool
  | .code _ _ _ _ => true
  | _ => false
theorem all_split {L : List Jvm.Cond} {P : Jvm.Cond → Bool} (h1 : L.all (fun c => isCode c || P c) = true) (h2 : ∀ c ∈ L.filter isCode, P c = true) : L.all P = true := by
  refine List.all_eq_true.mpr fun c hc => ?_
  have h := List.all_eq_true.mp h1 c hc
  rcases Bool.eq_false_or_eq_true (isCode c) with hi | hi
  · exact h2 c (List.mem_filter.mpr ⟨hc, hi⟩)
  · simpa [hi] using h
set_option maxRecDepth 65536 in
theorem w_c0 : (Jvm.Cond.code x code maxLocals ret).before args0 about1 = true := code_word (m := ⟨1, 1⟩) (meth := k1m1) (c := k1c1) (by decide +kernel) rfl rfl rfl (by decide +kernel)
set_option maxRecDepth 65536 in
theorem w_c1 : (Jvm.Cond.code ({ cls := "java/lang/String", name := "valueOf", desc := "(C)Ljava/lang/String;" } : Jvm.MethodName) jdk_42_method_139_code (1 : Nat) (Option.some (Jvm.ClassFile.FieldType.object "java/lang/String"))).before args0 about1 = true := code_word (m := ⟨7, 1⟩) (meth := k7m1) (c := k7c1) (by decide +kernel) rfl rfl rfl (by decide +kernel)
set_option maxRecDepth 65536 in
theorem w_c2 : (Jvm.Cond.code ({ cls := "java/lang/StringLatin1", name := "canEncode", desc := "(C)Z" } : Jvm.MethodName) jdk_43_method_3_code (1 : Nat) (Option.some Jvm.ClassFile.FieldType.boolean)).before args0 about1 = true := code_word (m := ⟨8, 1⟩) (meth := k8m1) (c := k8c1) (by decide +kernel) rfl rfl rfl (by decide +kernel)
set_option maxRecDepth 65536 in
theorem w_c3 : (Jvm.Cond.code ({ cls := "java/lang/StringLatin1", name := "toBytes", desc := "(C)[B" } : Jvm.MethodName) jdk_43_method_46_code (1 : Nat) (Option.some (Jvm.ClassFile.FieldType.array Jvm.ClassFile.FieldType.byte))).before args0 about1 = true := code_word (m := ⟨8, 2⟩) (meth := k8m2) (c := k8c2) (by decide +kernel) rfl rfl rfl (by decide +kernel)
set_option maxRecDepth 65536 in
theorem w_c4 : (Jvm.Cond.code ({ cls := "java/lang/String", name := "<init>", desc := "([BB)V" } : Jvm.MethodName) jdk_42_method_151_code (3 : Nat) (Option.none : Option Jvm.ClassFile.FieldType)).before args0 about1 = true := code_word (m := ⟨7, 2⟩) (meth := k7m2) (c := k7c2) (by decide +kernel) rfl rfl rfl (by decide +kernel)
set_option maxRecDepth 65536 in
theorem w_c5 : (Jvm.Cond.code ({ cls := "java/lang/Object", name := "<init>", desc := "()V" } : Jvm.MethodName) object_method_1_code (1 : Nat) (Option.none : Option Jvm.ClassFile.FieldType)).before args0 about1 = true := code_word (m := ⟨0, 0⟩) (meth := k0m0) (c := k0c0) (by decide +kernel) rfl rfl rfl (by decide +kernel)
set_option maxRecDepth 65536 in
theorem w_c6 : (Jvm.Cond.code ({ cls := "com/example/funnelwright/funnelwright/UserEvents", name := "<init>", desc := "(I)V" } : Jvm.MethodName) prog_22_method_1_code (2 : Nat) (Option.none : Option Jvm.ClassFile.FieldType)).before args0 about1 = true := code_word (m := ⟨9, 0⟩) (meth := k9m0) (c := k9c0) (by decide +kernel) rfl rfl rfl (by decide +kernel)
set_option maxRecDepth 65536 in
theorem w_c7 : (Jvm.Cond.code ({ cls := "com/example/funnelwright/funnelwright/UserEvents", name := "setProperty", desc := "(IILjava/lang/String;)V" } : Jvm.MethodName) prog_22_method_9_code (4 : Nat) (Option.none : Option Jvm.ClassFile.FieldType)).before args0 about1 = true := code_word (m := ⟨9, 3⟩) (meth := k9m3) (c := k9c3) (by decide +kernel) rfl rfl rfl (by decide +kernel)
set_option maxRecDepth 65536 in
theorem w_c8 : (Jvm.Cond.code ({ cls := "com/example/funnelwright/funnelwright/UserEvents", name := "property", desc := "(II)Ljava/lang/String;" } : Jvm.MethodName) prog_22_method_6_code (3 : Nat) (Option.some (Jvm.ClassFile.FieldType.object "java/lang/String"))).before args0 about1 = true := code_word (m := ⟨9, 2⟩) (meth := k9m2) (c := k9c2) (by decide +kernel) rfl rfl rfl (by decide +kernel)
set_option maxRecDepth 65536 in
theorem w_c9 : (Jvm.Cond.code ({ cls := "com/example/funnelwright/funnelwright/UserEvents", name := "size", desc := "()I" } : Jvm.MethodName) prog_22_method_3_code (1 : Nat) (Option.some Jvm.ClassFile.FieldType.int)).before args0 about1 = true := code_word (m := ⟨9, 1⟩) (meth := k9m1) (c := k9c1) (by decide +kernel) rfl rfl rfl (by decide +kernel)
def codes1 : List Jvm.Cond := [Jvm.Cond.code x code maxLocals ret, Jvm.Cond.code ({ cls := "java/lang/String", name := "valueOf", desc := "(C)Ljava/lang/String;" } : Jvm.MethodName) jdk_42_method_139_code (1 : Nat) (Option.some (Jvm.ClassFile.FieldType.object "java/lang/String")), Jvm.Cond.code ({ cls := "java/lang/StringLatin1", name := "canEncode", desc := "(C)Z" } : Jvm.MethodName) jdk_43_method_3_code (1 : Nat) (Option.some Jvm.ClassFile.FieldType.boolean), Jvm.Cond.code ({ cls := "java/lang/StringLatin1", name := "toBytes", desc := "(C)[B" } : Jvm.MethodName) jdk_43_method_46_code (1 : Nat) (Option.some (Jvm.ClassFile.FieldType.array Jvm.ClassFile.FieldType.byte)), Jvm.Cond.code ({ cls := "java/lang/String", name := "<init>", desc := "([BB)V" } : Jvm.MethodName) jdk_42_method_151_code (3 : Nat) (Option.none : Option Jvm.ClassFile.FieldType), Jvm.Cond.code ({ cls := "java/lang/Object", name := "<init>", desc := "()V" } : Jvm.MethodName) object_method_1_code (1 : Nat) (Option.none : Option Jvm.ClassFile.FieldType), Jvm.Cond.code ({ cls := "com/example/funnelwright/funnelwright/UserEvents", name := "<init>", desc := "(I)V" } : Jvm.MethodName) prog_22_method_1_code (2 : Nat) (Option.none : Option Jvm.ClassFile.FieldType), Jvm.Cond.code ({ cls := "com/example/funnelwright/funnelwright/UserEvents", name := "setProperty", desc := "(IILjava/lang/String;)V" } : Jvm.MethodName) prog_22_method_9_code (4 : Nat) (Option.none : Option Jvm.ClassFile.FieldType), Jvm.Cond.code ({ cls := "com/example/funnelwright/funnelwright/UserEvents", name := "property", desc := "(II)Ljava/lang/String;" } : Jvm.MethodName) prog_22_method_6_code (3 : Nat) (Option.some (Jvm.ClassFile.FieldType.object "java/lang/String")), Jvm.Cond.code ({ cls := "com/example/funnelwright/funnelwright/UserEvents", name := "size", desc := "()I" } : Jvm.MethodName) prog_22_method_3_code (1 : Nat) (Option.some Jvm.ClassFile.FieldType.int)]
set_option maxRecDepth 65536 in
theorem codes_eq : words1.filter isCode = codes1 := rfl
theorem w_codes : ∀ c ∈ words1.filter isCode, c.before args0 about1 = true := by
  rw [codes_eq]
  intro c hc
  simp only [codes1, List.mem_cons, List.not_mem_nil, or_false] at hc
  rcases hc with rfl | rfl | rfl | rfl | rfl | rfl | rfl | rfl | rfl | rfl
  · exact w_c0
  · exact w_c1
  · exact w_c2
  · exact w_c3
  · exact w_c4
  · exact w_c5
  · exact w_c6
  · exact w_c7
  · exact w_c8
  · exact w_c9
set_option maxRecDepth 65536 in
theorem w_t1 : (words1.take 24).all (fun c => isCode c || c.before args0 about1) = true := by decide +kernel
set_option maxRecDepth 65536 in
theorem w_t2 : ((words1.drop 24).take 24).all (fun c => isCode c || c.before args0 about1) = true := by decide +kernel
set_option maxRecDepth 65536 in
theorem w_t3 : ((words1.drop 24).drop 24).all (fun c => isCode c || c.before args0 about1) = true := by decide +kernel
theorem w_tables : (allAtoms (Jvm.Cond.code x code maxLocals ret :: tables_1)).before args0 about1 = true := by
  rw [allAtoms_all]
  show words1.all (fun c => c.before args0 about1) = true
  refine all_split ?_ w_codes
  rw [← List.take_append_drop 24 words1, List.all_append, w_t1, ← List.take_append_drop 24 (words1.drop 24), List.all_append, w_t2, w_t3]
  rfl
set_option maxRecDepth 65536 in
theorem w_rest : rest_1_c.before args0 about1 = true := by decide +kernel
set_option maxRecDepth 65536 in
theorem w_case : (Jvm.Cond.and given_1 narrow_1).before args0 about1 = true := by decide +kernel
theorem w_applies : (headSpec (Jvm.Cond.code x code maxLocals ret :: tables_1) room_1).applies x e0.platform about1 = true :=
  (Spec.applies_iff w_frames).mpr ⟨w_running, w_runnable, w_alone, w_named, w_hears, w_ripe, w_room, w_tables⟩
theorem atStart : AtStart classFile x code maxLocals ret World_1 tables_1 room_1 Calls_1 rest_1 Pre_1 launch0 p0 e0 about1 theMethod args0 below0 :=
  ⟨lists_1, trivial, launch0.admits_env _ _ _, launch0.least_env, fairChoices_fair.cas, fairChoices_fair.clock, w_frames, w_args, w_heap, w_applies, trivial, w_rest, w_case⟩
end start1
theorem witness_1 : WitnessClaimed_1 := ⟨start1.p0, start1.e0, start1.about1, start1.theMethod, start1.args0, start1.below0, start1.atStart⟩
end Jvm.Pilot.@@N@@
